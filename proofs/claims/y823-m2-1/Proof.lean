import JvmDerived
import JvmDerived.Pilot.@@N@@Statement
import JvmDerived.Pilot.@@N@@Code
set_option linter.unusedVariables false
set_option linter.unusedSimpArgs false
namespace Jvm.Pilot.@@N@@
section OwnFP
open Jvm.FP Jvm.FP.Core Jvm.Free.Fl
/-- what x stands for, in units of the least double -/
def own_zv (x : UInt64) : Int := zval b64 (val64 x)
/-- x is finite and stands for a / 2^k -/
def Dy (x : UInt64) (a : Int) (k : Nat) : Prop := DFin x ∧ own_zv x * ((2 ^ k : Nat) : Int) = a * (one64 : Int)
theorem Dy.nn {x : UInt64} {a : Int} {k : Nat} (h : Dy x a k) : NoNaN64 x := (fin64_core.mpr h.1).noNaN
theorem own_pp (k : Nat) : (0 : Int) < ((2 ^ k : Nat) : Int) := Int.natCast_pos.mpr (Nat.two_pow_pos k)
theorem own_up : (0 : Int) < (one64 : Int) := Int.natCast_pos.mpr one64_pos
theorem own_signed_abs (a : Int) : signed (decide (a < 0)) a.natAbs = a := by
  unfold signed
  by_cases h : a < 0
  · simp [h]; omega
  · simp [h]; omega
theorem own_datum (a : Int) (n : Nat) (ha : a.natAbs < 2 ^ 53) (hn : n ≤ 1074) : ∃ V : Datum, Core.fits b64 V ∧ V ≠ .nan ∧ zval b64 V = a * ((2 ^ n : Nat) : Int) := by
  have hq : b64.qmin = -1074 := qmin_b64
  have hqx : b64.qmax = 971 := by decide
  obtain ⟨c', q', hr, hu⟩ := round_exact good_b64 (decide (a < 0)) (c := a.natAbs) (q := (n : Int) - 1074) ha (by rw [hq]; omega) (by rw [hqx]; omega)
  have hV := round_fits good_b64 (.fin (decide (a < 0)) a.natAbs ((n : Int) - 1074))
  rw [hr] at hV
  refine ⟨_, hV, by simp, ?_⟩
  show signed (decide (a < 0)) (inUnits c' q' b64.qmin) = _
  rw [hu]
  unfold inUnits
  rw [signed_mul, own_signed_abs, hq, show (((n : Int) - 1074) - -1074).toNat = n by omega]
theorem own_notinf {a : Int} {n : Nat} {t : Bool} (ha : a.natAbs < 2 ^ 53) (hn : n ≤ 1074) : ¬ zval b64 (.inf t) = a * ((2 ^ n : Nat) : Int) := by
  intro e
  have q := congrArg Int.natAbs e
  rw [show zval b64 (.inf t) = signed t (b64.tails * 2 ^ (b64.exps - 2)) from rfl, natAbs_signed, Int.natAbs_mul, Int.natAbs_natCast] at q
  have l1 : a.natAbs * 2 ^ n < 2 ^ 53 * 2 ^ 1074 := Nat.mul_lt_mul_of_lt_of_le ha (Nat.pow_le_pow_right (by decide) hn) (Nat.two_pow_pos _)
  have l2 : 2 ^ 53 * 2 ^ 1074 < b64.tails * 2 ^ (b64.exps - 2) := by
    rw [tails_b64, show b64.exps - 2 = 2046 by decide, ← Nat.pow_add, ← Nat.pow_add]
    exact Nat.pow_lt_pow_right (by decide) (by decide)
  exact Nat.lt_irrefl _ (Nat.lt_trans l2 (by rw [q]; exact l1))
theorem own_round {s : Bool} {c : Nat} {q e0 a : Int} {k : Nat} (ha : a.natAbs < 2 ^ 53) (hk : k ≤ 1074) (h0 : e0 ≤ -1074) (h0e : e0 ≤ q)
    (h : signed s (inUnits c q e0) * ((2 ^ k : Nat) : Int) = a * ((2 ^ (-e0).toNat : Nat) : Int)) :
    (∃ s' c' q', round b64 (.fin s c q) = .fin s' c' q') ∧ zval b64 (round b64 (.fin s c q)) * ((2 ^ k : Nat) : Int) = a * (one64 : Int) := by
  have hq : b64.qmin = -1074 := qmin_b64
  obtain ⟨V, hV, hVn, hz⟩ := own_datum a (1074 - k) ha (by omega)
  have hs : zval b64 V * ((2 ^ (b64.qmin - e0).toNat : Nat) : Int) = signed s (inUnits c q e0) := by
    apply Int.eq_of_mul_eq_mul_right (a := ((2 ^ k : Nat) : Int)) (Int.ne_of_gt (own_pp k))
    rw [h, hz, hq, Int.mul_assoc, Int.mul_assoc, ← Int.natCast_mul, ← Int.natCast_mul, ← Nat.pow_add, ← Nat.pow_add]
    rw [show 1074 - k + ((-1074 - e0).toNat + k) = (-e0).toNat by omega]
  have le := zval_round_le good_b64 (s := s) (c := c) (q := q) (e0 := e0) hV hVn (by rw [hq]; exact h0) h0e (by rw [hs]; exact Int.le_refl _)
  have ge := zval_round_ge good_b64 (s := s) (c := c) (q := q) (e0 := e0) hV hVn (by rw [hq]; exact h0) h0e (by rw [hs]; exact Int.le_refl _)
  have e : zval b64 (round b64 (.fin s c q)) = a * ((2 ^ (1074 - k) : Nat) : Int) := by rw [← hz]; exact Int.le_antisymm le ge
  refine ⟨?_, by rw [e, Int.mul_assoc, ← Int.natCast_mul, ← Nat.pow_add, show 1074 - k + k = 1074 by omega]; rfl⟩
  cases hc : round b64 (.fin s c q) with
  | nan => exact absurd hc (roundRatio_ne_nan _ _ _ _ _)
  | fin s' c' q' => exact ⟨_, _, _, rfl⟩
  | inf t => rw [hc] at e; exact absurd e (own_notinf ha (by omega))
theorem Dy.add {x y : UInt64} {a b : Int} {k : Nat} (hx : Dy x a k) (hy : Dy y b k) (h : (a + b).natAbs < 2 ^ 53) (hk : k ≤ 1074) : Dy (FP.dadd x y) (a + b) k := by
  obtain ⟨⟨s, c, q, ex⟩, zx⟩ := hx
  obtain ⟨⟨t, d, r, ey⟩, zy⟩ := hy
  have fx := val64_fits x
  have fy := val64_fits y
  unfold own_zv at zx zy
  rw [ex] at fx zx
  rw [ey] at fy zy
  obtain ⟨sg, n, e, hs, he, hv⟩ := sum_units fx fy
  have hd : val64 (FP.dadd x y) = round b64 (.fin sg n e) := by rw [show FP.dadd x y = Core.dadd x y from rfl, val64_dadd, ex, ey, hs]
  obtain ⟨⟨s', c', q', h1⟩, h2⟩ := own_round (s := sg) (c := n) (q := e) (e0 := b64.qmin) (a := a + b) (k := k) h hk (Int.le_of_eq qmin_b64) he (by rw [hv, Int.add_mul, zx, zy, ← Int.add_mul, pow_qmin64])
  exact ⟨⟨s', c', q', hd.trans h1⟩, by unfold own_zv; rw [hd]; exact h2⟩
theorem Dy.sub {x y : UInt64} {a b : Int} {k : Nat} (hx : Dy x a k) (hy : Dy y b k) (h : (a - b).natAbs < 2 ^ 53) (hk : k ≤ 1074) : Dy (FP.dsub x y) (a - b) k := by
  obtain ⟨⟨s, c, q, ex⟩, zx⟩ := hx
  obtain ⟨⟨t, d, r, ey⟩, zy⟩ := hy
  have fx := val64_fits x
  have fy := negate_fits (val64_fits y)
  have zn := zval_negate b64 (val64 y)
  unfold own_zv at zx zy
  rw [ex] at fx zx
  rw [ey] at fy zy zn
  have fy' : Core.fits b64 (.fin (!t) d r) := fy
  have zn' : zval b64 (.fin (!t) d r) = -zval b64 (.fin t d r) := zn
  obtain ⟨sg, n, e, hs, he, hv⟩ := sum_units fx fy'
  have hd : val64 (FP.dsub x y) = round b64 (.fin sg n e) := by
    rw [show FP.dsub x y = Core.dsub x y from rfl, val64_dsub, ex, ey]
    exact congrArg (round b64) hs
  obtain ⟨⟨s', c', q', h1⟩, h2⟩ := own_round (s := sg) (c := n) (q := e) (e0 := b64.qmin) (a := a - b) (k := k) h hk (Int.le_of_eq qmin_b64) he (by rw [hv, zn', Int.add_mul, Int.neg_mul, zx, zy, ← Int.sub_eq_add_neg, ← Int.sub_mul, pow_qmin64])
  exact ⟨⟨s', c', q', hd.trans h1⟩, by unfold own_zv; rw [hd]; exact h2⟩
theorem own_two_qmin : 2 ^ (-(2 * b64.qmin)).toNat = one64 * one64 := by
  rw [show (-(2 * b64.qmin)).toNat = (-b64.qmin).toNat + (-b64.qmin).toNat by rw [qmin_b64]; decide, Nat.pow_add, pow_qmin64]
theorem Dy.mul {x y : UInt64} {a b : Int} {k j : Nat} (hx : Dy x a k) (hy : Dy y b j) (h : (a * b).natAbs < 2 ^ 53) (hk : k + j ≤ 1074) : Dy (FP.dmul x y) (a * b) (k + j) := by
  obtain ⟨⟨s, c, q, ex⟩, zx⟩ := hx
  obtain ⟨⟨t, d, r, ey⟩, zy⟩ := hy
  have fx := val64_fits x
  have fy := val64_fits y
  unfold own_zv at zx zy
  rw [ex] at fx zx
  rw [ey] at fy zy
  obtain ⟨hp, he, hv⟩ := product_units fx fy
  have hd : val64 (FP.dmul x y) = round b64 (.fin (s != t) (c * d) (q + r)) := by rw [show FP.dmul x y = Core.dmul x y from rfl, val64_dmul, ex, ey, hp]
  have hg : signed (s != t) (inUnits (c * d) (q + r) (2 * b64.qmin)) = zval b64 (.fin s c q) * zval b64 (.fin t d r) := by rw [hv, signed_xor]; rfl
  obtain ⟨⟨s', c', q', h1⟩, h2⟩ := own_round (s := s != t) (c := c * d) (q := q + r) (e0 := 2 * b64.qmin) (a := a * b) (k := k + j) h hk (by rw [qmin_b64]; decide) he (by
    rw [hg, own_two_qmin, Nat.pow_add, Int.natCast_mul, Int.natCast_mul]
    rw [show ∀ A B P Q : Int, A * B * (P * Q) = (A * P) * (B * Q) from fun A B P Q => by ac_rfl, zx, zy]
    exact (fun A B P : Int => by ac_rfl : ∀ A B P : Int, A * P * (B * P) = A * B * (P * P)) _ _ _)
  exact ⟨⟨s', c', q', hd.trans h1⟩, by unfold own_zv; rw [hd]; exact h2⟩
theorem own_units {c : Nat} {q r e0 : Int} (hq : b64.qmin ≤ q) (hr : b64.qmin ≤ r) (h1 : e0 ≤ q - r) (h2 : e0 ≤ b64.qmin) :
    inUnits c (q - r) e0 * 2 ^ (r - b64.qmin).toNat = inUnits c q b64.qmin * one64 * 2 ^ (b64.qmin - e0).toNat := by
  unfold inUnits one64
  rw [qmin_b64] at *
  rw [Nat.mul_assoc, ← Nat.pow_add, Nat.mul_assoc, Nat.mul_assoc, ← Nat.pow_add, ← Nat.pow_add]
  rw [show (q - r - e0).toNat + (r - -1074).toNat = (q - -1074).toNat + (1074 + (-1074 - e0).toNat) by omega]
theorem own_ddiv {x y : UInt64} {s t : Bool} {c d : Nat} {q r : Int} (ex : val64 x = .fin s c q) (ey : val64 y = .fin t d r) (hd : d ≠ 0) : val64 (FP.ddiv x y) = roundRatio b64 (s != t) c d (q - r) := by
  rw [show FP.ddiv x y = Core.ddiv x y from rfl, val64_ddiv, ex, ey]
  simp [quotient, hd]
theorem own_div_le {x y : UInt64} {s t : Bool} {c d : Nat} {q r : Int} (ex : val64 x = .fin s c q) (ey : val64 y = .fin t d r) (hd : d ≠ 0) {V : Datum} (hV : Core.fits b64 V) (hn : V ≠ .nan)
    (h : zmag b64 (val64 x) * one64 ≤ zmag b64 V * zmag b64 (val64 y)) : zmag b64 (val64 (FP.ddiv x y)) ≤ zmag b64 V := by
  have fx := val64_fits x
  have fy := val64_fits y
  rw [ex] at fx h
  rw [ey] at fy h
  rw [own_ddiv ex ey hd]
  refine zmag_roundRatio_le good_b64 (e0 := min (q - r) b64.qmin) (Nat.pos_of_ne_zero hd) hV hn (Int.min_le_right _ _) (Int.min_le_left _ _) ?_
  refine Nat.le_of_mul_le_mul_right (c := 2 ^ (r - b64.qmin).toNat) ?_ (Nat.two_pow_pos _)
  rw [own_units fx.2.1 fy.2.1 (Int.min_le_left _ _) (Int.min_le_right _ _)]
  refine Nat.le_trans (Nat.mul_le_mul_right _ h) (Nat.le_of_eq ?_)
  show zmag b64 V * inUnits d r b64.qmin * _ = _
  unfold inUnits
  exact (fun A B P Q : Nat => by ac_rfl : ∀ A B P Q : Nat, A * (B * P) * Q = A * Q * B * P) _ _ _ _
theorem own_div_ge {x y : UInt64} {s t : Bool} {c d : Nat} {q r : Int} (ex : val64 x = .fin s c q) (ey : val64 y = .fin t d r) (hd : d ≠ 0) {V : Datum} (hV : Core.fits b64 V)
    (h : zmag b64 V * zmag b64 (val64 y) ≤ zmag b64 (val64 x) * one64) : zmag b64 V ≤ zmag b64 (val64 (FP.ddiv x y)) := by
  have fx := val64_fits x
  have fy := val64_fits y
  rw [ex] at fx h
  rw [ey] at fy h
  rw [own_ddiv ex ey hd]
  refine zmag_roundRatio_ge good_b64 (e0 := min (q - r) b64.qmin) (Nat.pos_of_ne_zero hd) hV (Int.min_le_right _ _) (Int.min_le_left _ _) ?_
  refine Nat.le_of_mul_le_mul_right (c := 2 ^ (r - b64.qmin).toNat) ?_ (Nat.two_pow_pos _)
  rw [own_units fx.2.1 fy.2.1 (Int.min_le_left _ _) (Int.min_le_right _ _)]
  refine Nat.le_trans (Nat.le_of_eq ?_) (Nat.mul_le_mul_right _ h)
  show _ = zmag b64 V * inUnits d r b64.qmin * _
  unfold inUnits
  exact (fun A B P Q : Nat => by ac_rfl : ∀ A B P Q : Nat, A * Q * B * P = A * (B * P) * Q) _ _ _ _
theorem own_zval_abs (d : Datum) : (zval b64 d).natAbs = zmag b64 d := by unfold zval; exact natAbs_signed _ _
theorem Dy.div {x y : UInt64} {a b m : Int} {k j n : Nat} (hx : Dy x a k) (hy : Dy y b j) (hb : b ≠ 0) (hm : m.natAbs < 2 ^ 53) (hn : n ≤ 1074)
    (h : a * ((2 ^ j : Nat) : Int) * ((2 ^ n : Nat) : Int) = m * b * ((2 ^ k : Nat) : Int)) : Dy (FP.ddiv x y) m n := by
  obtain ⟨⟨s, c, q, ex⟩, zx⟩ := hx
  obtain ⟨⟨t, d, r, ey⟩, zy⟩ := hy
  unfold own_zv at zx zy
  obtain ⟨V, hV, hVn, hz⟩ := own_datum m (1074 - n) hm (by omega)
  have hzn : zval b64 V * ((2 ^ n : Nat) : Int) = m * (one64 : Int) := by rw [hz, Int.mul_assoc, ← Int.natCast_mul, ← Nat.pow_add, show 1074 - n + n = 1074 by omega]; rfl
  have hyn : zval b64 (val64 y) ≠ 0 := fun e => by
    rw [e, Int.zero_mul] at zy
    rcases Int.mul_eq_zero.mp zy.symm with q | q
    · exact hb q
    · exact absurd q (Int.ne_of_gt own_up)
  have hd : d ≠ 0 := fun e => by
    subst e
    rw [ey] at hyn
    exact hyn (by show signed t (inUnits 0 r b64.qmin) = 0; unfold inUnits; rw [Nat.zero_mul, signed_zero])
  have key : zval b64 V * zval b64 (val64 y) = zval b64 (val64 x) * (one64 : Int) := by
    have e1 : (zval b64 V * zval b64 (val64 y)) * (((2 ^ n : Nat) : Int) * ((2 ^ j : Nat) : Int) * ((2 ^ k : Nat) : Int)) = (zval b64 (val64 x) * (one64 : Int)) * (((2 ^ n : Nat) : Int) * ((2 ^ j : Nat) : Int) * ((2 ^ k : Nat) : Int)) := by
      rw [(fun A B P Q R : Int => by ac_rfl : ∀ A B P Q R : Int, A * B * (P * Q * R) = (A * P) * (B * Q) * R), hzn, zy,
        (fun A B P Q R : Int => by ac_rfl : ∀ A B P Q R : Int, A * B * (P * Q * R) = (A * R) * (B * P * Q)) (zval b64 (val64 x)), zx,
        (fun M B U K : Int => by ac_rfl : ∀ M B U K : Int, M * U * (B * U) * K = (M * B * K) * (U * U)), ← h]
      exact (fun A U P Q : Int => by ac_rfl : ∀ A U P Q : Int, A * Q * P * (U * U) = A * U * (U * P * Q)) _ _ _ _
    exact Int.eq_of_mul_eq_mul_right (Int.ne_of_gt (Int.mul_pos (Int.mul_pos (own_pp n) (own_pp j)) (own_pp k))) e1
  have kn : zmag b64 V * zmag b64 (val64 y) = zmag b64 (val64 x) * one64 := by
    have q := congrArg Int.natAbs key
    rw [Int.natAbs_mul, Int.natAbs_mul, own_zval_abs, own_zval_abs, own_zval_abs, Int.natAbs_natCast] at q
    exact q
  have le := own_div_le ex ey hd hV hVn (Nat.le_of_eq kn.symm)
  have ge := own_div_ge ex ey hd hV (Nat.le_of_eq kn)
  have em : zmag b64 (val64 (FP.ddiv x y)) = zmag b64 V := Nat.le_antisymm le ge
  have er := own_ddiv ex ey hd
  have es : sgn (val64 (FP.ddiv x y)) = (s != t) := by rw [er, sgn_roundRatio]
  have prod : zval b64 (val64 (FP.ddiv x y)) * zval b64 (val64 y) = zval b64 (val64 x) * (one64 : Int) := by
    unfold zval
    rw [es, em, ← signed_xor, kn, signed_mul, ex, ey]
    show signed ((s != t) != t) _ * _ = signed s _ * _
    rw [show ((s != t) != t) = s by cases s <;> cases t <;> rfl]
  have eq : zval b64 (val64 (FP.ddiv x y)) = zval b64 V := Int.eq_of_mul_eq_mul_right hyn (prod.trans key.symm)
  refine ⟨?_, by unfold own_zv; rw [eq]; exact hzn⟩
  cases hc : val64 (FP.ddiv x y) with
  | nan => exact absurd (er.symm.trans hc) (roundRatio_ne_nan _ _ _ _ _)
  | fin s' c' q' => exact ⟨_, _, _, hc⟩
  | inf t => rw [hc, hz] at eq; exact absurd eq (own_notinf hm (by omega))
theorem own_ofInt {x : UInt64} {i : Int} (hx : val64 x = round b64 (ofInt i)) (h : i.natAbs < 2 ^ 53) : Dy x i 0 := by
  obtain ⟨⟨s', c', q', h1⟩, h2⟩ := own_round (s := decide (i < 0)) (c := i.natAbs) (q := 0) (e0 := b64.qmin) (a := i) (k := 0) h (by decide) (Int.le_of_eq qmin_b64) (by rw [qmin_b64]; decide) (by
    unfold inUnits
    rw [signed_mul, own_signed_abs, show (0 - b64.qmin) = -b64.qmin by omega, pow_qmin64]; simp)
  exact ⟨⟨s', c', q', hx.trans h1⟩, by unfold own_zv; rw [hx]; exact h2⟩
theorem Dy.i2d (v : Int32) : Dy (FP.i2d v) v.toInt 0 := own_ofInt (val64_i2d v) (by have h1 := Int32.toInt_lt v; have h2 := Int32.le_toInt v; omega)
theorem Dy.l2d {v : Int64} (h : v.toInt.natAbs < 2 ^ 53) : Dy (FP.l2d v) v.toInt 0 := own_ofInt (val64_l2d v) h
theorem Dy.lit {x : UInt64} {a : Int} {k : Nat} (s : Bool) (c : Nat) (q : Int) (h : val64 x = .fin s c q) (h2 : signed s (inUnits c q b64.qmin) * ((2 ^ k : Nat) : Int) = a * (one64 : Int)) : Dy x a k :=
  ⟨⟨s, c, q, h⟩, by unfold own_zv; rw [h]; exact h2⟩
theorem Dy.up {x : UInt64} {a : Int} {k : Nat} (i : Nat) (h : Dy x a k) : Dy x (a * ((2 ^ i : Nat) : Int)) (k + i) :=
  ⟨h.1, by rw [Nat.pow_add, Int.natCast_mul, ← Int.mul_assoc, h.2]; exact (fun A B C : Int => by ac_rfl : ∀ A B C : Int, A * B * C = A * C * B) _ _ _⟩
theorem Dy.cast {x : UInt64} {a b : Int} {k j : Nat} (h : Dy x a k) (e : a = b) (e2 : k = j) : Dy x b j := e ▸ e2 ▸ h
/-- the int that dcmpl and dcmpg push for two numbers -/
def own_ci (a b : Int) : Int32 := if a < b then -1 else if a = b then 0 else 1
theorem own_ci_eq {a b : Int} : own_ci a b = 0 ↔ a = b := by unfold own_ci; split <;> (try split) <;> simp_all <;> omega
theorem own_dcmp {x y : UInt64} (hx : DFin x) (hy : DFin y) : FP.dcmp x y = some (compare (own_zv x) (own_zv y)) := by
  obtain ⟨s, c, q, ex⟩ := hx
  obtain ⟨t, d, r, ey⟩ := hy
  exact order_zval good_b64 (val64_fits x) (val64_fits y) (fun e => by cases ex.symm.trans e) (fun e => by cases ey.symm.trans e)
theorem Dy.dcmp {x y : UInt64} {a b : Int} {k : Nat} (hx : Dy x a k) (hy : Dy y b k) : FP.dcmp x y = some (compare a b) := by
  rw [own_dcmp hx.1 hy.1]
  congr 1
  refine compare_congr ?_ ?_
  · rw [← Int.mul_lt_mul_right (own_pp k), hx.2, hy.2, Int.mul_lt_mul_right own_up]
  · constructor
    · intro e
      have q := hx.2
      rw [e, hy.2] at q
      exact (Int.eq_of_mul_eq_mul_right (Int.ne_of_gt own_up) q).symm
    · intro e
      have q := hx.2
      rw [e, ← hy.2] at q
      exact Int.eq_of_mul_eq_mul_right (Int.ne_of_gt (own_pp k)) q
theorem Dy.cmp {x y : UInt64} {a b : Int} {k : Nat} (hx : Dy x a k) (hy : Dy y b k) (o : Jvm.ClassFile.CmpOp) : Jvm.Op.cmpValue (FP.dcmp x y) o = own_ci a b := by
  rw [hx.dcmp hy]
  unfold own_ci
  show Jvm.Op.cmpValue (some (compareOfLessAndEq a b)) o = _
  unfold compareOfLessAndEq
  by_cases h1 : a < b
  · simp [h1]; cases o <;> rfl
  · by_cases h2 : a = b
    · simp [h2]; cases o <;> rfl
    · simp [h1, h2]; cases o <;> rfl
end OwnFP
end Jvm.Pilot.@@N@@
namespace Jvm.Pilot.@@N@@
open Jvm Jvm.ClassFile Sem Op Lib Jvm.Free Jvm.Stand Jvm.LawKit Jvm.RoadKit Jvm.Free.Fl Bundle Jvm.Pilot.@@N@@.Jvm.D
/-- the run from A ends, and what it leaves meets F -/
def Rn (p : Program) (e : Env) (below : List Frame) (A : State) (F : Outcome → State → Prop) : Prop := ∃ s₂ o, Steps p.tables e below A s₂ ∧ s₂.status = .running ∧ Ended s₂ below o ∧ F o s₂
theorem Rn.st {p : Program} {e : Env} {below : List Frame} {A B : State} {F : Outcome → State → Prop} (h : ∀ t, Steps p.tables e below B t → Steps p.tables e below A t) (r : Rn p e below B F) : Rn p e below A F := by
  obtain ⟨s₂, o, h1, h2⟩ := r
  exact ⟨s₂, o, h _ h1, h2⟩
theorem Rn.ret {p : Program} {l : Launch} {e : Env} {R : Room} {s : State} {m : MethodId} {args : Array Value} {below : List Frame} {meth : Method} {c : Code} {T : State} {locs : List Loc} {cells slots k n : Nat} {A : State} {h : Heap}
    (X : Stand p l e R s m args below meth c T locs cells slots) (hlk : meth.locks = false) {v : Option Value} (hv : meth.sig.returnType = none → v = none) {Q : Option Value → Heap → List Loc → Prop} (eT : T.heap = h)
    (last : ∀ fs, (∀ (f : JFrame) (acts : List Action), f.method = m → f.locked = none → f.entered = [] → (doReturn e (T.setTop f) acts v).1 = T.setFrames fs) → Steps p.tables e below A (T.setFrames fs))
    (q : Q v h locs) (hc : cells ≤ k) (hs : slots ≤ n) : Rn p e below A (fun o U' => ∃ v L, o = .returned v ∧ Q v U'.heap L ∧ FrameEnd s o U' L k n) := by
  obtain ⟨fs, hr, hrun, hended, hW, hsame⟩ := X.leave hv hlk
  refine ⟨_, _, last fs hr, hrun, hended, _, _, rfl, ?_, ⟨_, rfl⟩, hW, hsame.mono hc hs⟩
  show Q v T.heap locs
  rw [eT]; exact q
theorem own_mulL {a b : Int64} (h : (a.toInt * b.toInt).natAbs < 9223372036854775808) : (a * b).toInt = a.toInt * b.toInt := by
  rw [Int64.toInt_mul, Int.bmod_eq_of_le (by omega) (by omega)]
theorem own_addL {a b : Int64} (h : (a.toInt + b.toInt).natAbs < 9223372036854775808) : (a + b).toInt = a.toInt + b.toInt := by
  rw [Int64.toInt_add, Int.bmod_eq_of_le (by omega) (by omega)]
theorem own_addI {a b : Int32} (h : -2147483648 ≤ a.toInt + b.toInt ∧ a.toInt + b.toInt < 2147483648) : (a + b).toInt = a.toInt + b.toInt := by
  rw [Int32.toInt_add, Int.bmod_eq_of_le (by omega) (by omega)]
theorem own_bd {j n : Int32} (h : 0 ≤ j.toInt ∧ j.toInt < n.toInt) : ¬ j < 0 ∧ j < n := by
  constructor
  · rw [Int32.lt_iff_toInt_lt]; have : (0 : Int32).toInt = 0 := by decide
    omega
  · rw [Int32.lt_iff_toInt_lt]; exact h.2
theorem own_getH_nil (dv : Value) (n : Nat) : getH [] [] dv n = dv := by simp [getH]
theorem own_pb {a b : Int} {A B : Nat} (ha : a.natAbs ≤ A) (hb : b.natAbs ≤ B) : (a * b).natAbs ≤ A * B := by rw [Int.natAbs_mul]; exact Nat.mul_le_mul ha hb
theorem own_b (a : Int32) : -2147483648 ≤ a.toInt ∧ a.toInt < 2147483648 := ⟨Int32.le_toInt a, Int32.toInt_lt a⟩
section RSteps
variable {p : Program} {l : Launch} {e : Env} {R : Room} {s : State} {m : MethodId} {args : Array Value} {below : List Frame} {meth : Method} {c : Code} {T : State} {locs : List Loc} {cells slots : Nat} {G : Outcome → State → Prop} {L L' : Array Slot} {S : List Value} {pc pc' : Nat}
theorem R.iloadN (X : Stand p l e R s m args below meth c T locs cells slots) (hx : p.tables.exec = Jvm.exec) {k : Fin 4} {v : Int32} (hd : decode c.code pc = .ok (.iload_n k, 1)) (hl : L[k.val]? = some (.val (.int v))) (hp : pc + 1 = pc') (r : Rn p e below (T.setTop (mkF m pc' L (.int v :: S))) G) : Rn p e below (T.setTop (mkF m pc L (S))) G := by
  subst hp; exact Rn.st (fun t q => XS.iloadN X.here hx rfl hd hl q) r
theorem R.iload (X : Stand p l e R s m args below meth c T locs cells slots) (hx : p.tables.exec = Jvm.exec) {k : Nat} {v : Int32} (hd : decode c.code pc = .ok (.iload k, 2)) (hl : L[k]? = some (.val (.int v))) (hp : pc + 2 = pc') (r : Rn p e below (T.setTop (mkF m pc' L (.int v :: S))) G) : Rn p e below (T.setTop (mkF m pc L (S))) G := by
  subst hp; exact Rn.st (fun t q => XS.iload X.here hx rfl hd hl q) r
theorem R.istoreN (X : Stand p l e R s m args below meth c T locs cells slots) (hx : p.tables.exec = Jvm.exec) {k : Fin 4} {v : Int32} (hd : decode c.code pc = .ok (.istore_n k, 1)) (hl : storeLocals L k.val (.int v) = some L') (hp : pc + 1 = pc') (r : Rn p e below (T.setTop (mkF m pc' L' (S))) G) : Rn p e below (T.setTop (mkF m pc L (.int v :: S))) G := by
  subst hp; exact Rn.st (fun t q => XS.istoreN X.here hx rfl hd rfl hl q) r
theorem R.istore (X : Stand p l e R s m args below meth c T locs cells slots) (hx : p.tables.exec = Jvm.exec) {k : Nat} {v : Int32} (hd : decode c.code pc = .ok (.istore k, 2)) (hl : storeLocals L k (.int v) = some L') (hp : pc + 2 = pc') (r : Rn p e below (T.setTop (mkF m pc' L' (S))) G) : Rn p e below (T.setTop (mkF m pc L (.int v :: S))) G := by
  subst hp; exact Rn.st (fun t q => XS.istore X.here hx rfl hd rfl hl q) r
theorem R.lloadN (X : Stand p l e R s m args below meth c T locs cells slots) (hx : p.tables.exec = Jvm.exec) {k : Fin 4} {v : Int64} (hd : decode c.code pc = .ok (.lload_n k, 1)) (hl : L[k.val]? = some (.val (.long v))) (hp : pc + 1 = pc') (r : Rn p e below (T.setTop (mkF m pc' L (.long v :: S))) G) : Rn p e below (T.setTop (mkF m pc L (S))) G := by
  subst hp; exact Rn.st (fun t q => XS.lloadN X.here hx rfl hd hl q) r
theorem R.lload (X : Stand p l e R s m args below meth c T locs cells slots) (hx : p.tables.exec = Jvm.exec) {k : Nat} {v : Int64} (hd : decode c.code pc = .ok (.lload k, 2)) (hl : L[k]? = some (.val (.long v))) (hp : pc + 2 = pc') (r : Rn p e below (T.setTop (mkF m pc' L (.long v :: S))) G) : Rn p e below (T.setTop (mkF m pc L (S))) G := by
  subst hp; exact Rn.st (fun t q => XS.lload X.here hx rfl hd hl q) r
theorem R.lstore (X : Stand p l e R s m args below meth c T locs cells slots) (hx : p.tables.exec = Jvm.exec) {k : Nat} {v : Int64} (hd : decode c.code pc = .ok (.lstore k, 2)) (hl : storeLocals L k (.long v) = some L') (hp : pc + 2 = pc') (r : Rn p e below (T.setTop (mkF m pc' L' (S))) G) : Rn p e below (T.setTop (mkF m pc L (.long v :: S))) G := by
  subst hp; exact Rn.st (fun t q => XS.lstore X.here hx rfl hd rfl hl q) r
theorem R.aloadN (X : Stand p l e R s m args below meth c T locs cells slots) (hx : p.tables.exec = Jvm.exec) {k : Fin 4} {v : Value} (hd : decode c.code pc = .ok (.aload_n k, 1)) (hl : L[k.val]? = some (.val v)) (hv : v.isRef = true) (hp : pc + 1 = pc') (r : Rn p e below (T.setTop (mkF m pc' L (v :: S))) G) : Rn p e below (T.setTop (mkF m pc L (S))) G := by
  subst hp; exact Rn.st (fun t q => XS.aloadN X.here hx rfl hd hl hv q) r
theorem R.aload (X : Stand p l e R s m args below meth c T locs cells slots) (hx : p.tables.exec = Jvm.exec) {k : Nat} {v : Value} (hd : decode c.code pc = .ok (.aload k, 2)) (hl : L[k]? = some (.val v)) (hv : v.isRef = true) (hp : pc + 2 = pc') (r : Rn p e below (T.setTop (mkF m pc' L (v :: S))) G) : Rn p e below (T.setTop (mkF m pc L (S))) G := by
  subst hp; exact Rn.st (fun t q => XS.aload X.here hx rfl hd hl hv q) r
theorem R.astoreN (X : Stand p l e R s m args below meth c T locs cells slots) (hx : p.tables.exec = Jvm.exec) {k : Fin 4} {v : Value} (hd : decode c.code pc = .ok (.astore_n k, 1)) (hv : v.isRef = true) (hl : storeLocals L k.val v = some L') (hp : pc + 1 = pc') (r : Rn p e below (T.setTop (mkF m pc' L' (S))) G) : Rn p e below (T.setTop (mkF m pc L (v :: S))) G := by
  subst hp; exact Rn.st (fun t q => XS.astoreN X.here hx rfl hd rfl hv hl q) r
theorem R.astore (X : Stand p l e R s m args below meth c T locs cells slots) (hx : p.tables.exec = Jvm.exec) {k : Nat} {v : Value} (hd : decode c.code pc = .ok (.astore k, 2)) (hv : v.isRef = true) (hl : storeLocals L k v = some L') (hp : pc + 2 = pc') (r : Rn p e below (T.setTop (mkF m pc' L' (S))) G) : Rn p e below (T.setTop (mkF m pc L (v :: S))) G := by
  subst hp; exact Rn.st (fun t q => XS.astore X.here hx rfl hd rfl hv hl q) r
theorem R.iconst (X : Stand p l e R s m args below meth c T locs cells slots) (hx : p.tables.exec = Jvm.exec) {i : Int} {v : Int32} (hd : decode c.code pc = .ok (.iconst i, 1)) (hv : Int32.ofInt i = v) (hp : pc + 1 = pc') (r : Rn p e below (T.setTop (mkF m pc' L (.int v :: S))) G) : Rn p e below (T.setTop (mkF m pc L (S))) G := by
  subst hp hv; exact Rn.st (fun t q => XS.iconst X.here hx rfl hd q) r
theorem R.bipush (X : Stand p l e R s m args below meth c T locs cells slots) (hx : p.tables.exec = Jvm.exec) {i : Int} {v : Int32} (hd : decode c.code pc = .ok (.bipush i, 2)) (hv : (Int8.ofInt i).toInt32 = v) (hp : pc + 2 = pc') (r : Rn p e below (T.setTop (mkF m pc' L (.int v :: S))) G) : Rn p e below (T.setTop (mkF m pc L (S))) G := by
  subst hp hv; exact Rn.st (fun t q => XS.bipush X.here hx rfl hd q) r
theorem R.lconst (X : Stand p l e R s m args below meth c T locs cells slots) (hx : p.tables.exec = Jvm.exec) {i : Fin 2} {v : Int64} (hd : decode c.code pc = .ok (.lconst i, 1)) (hv : Int64.ofNat i = v) (hp : pc + 1 = pc') (r : Rn p e below (T.setTop (mkF m pc' L (.long v :: S))) G) : Rn p e below (T.setTop (mkF m pc L (S))) G := by
  subst hp hv; exact Rn.st (fun t q => XS.lconst X.here hx rfl hd q) r
theorem R.iadd (X : Stand p l e R s m args below meth c T locs cells slots) (hx : p.tables.exec = Jvm.exec) {x y v : Int32} (hd : decode c.code pc = .ok (.iadd, 1)) (hv : x + y = v) (hp : pc + 1 = pc') (r : Rn p e below (T.setTop (mkF m pc' L (.int v :: S))) G) : Rn p e below (T.setTop (mkF m pc L (.int y :: .int x :: S))) G := by
  subst hp hv; exact Rn.st (fun t q => XS.iadd X.here hx rfl hd rfl q) r
theorem R.ladd (X : Stand p l e R s m args below meth c T locs cells slots) (hx : p.tables.exec = Jvm.exec) {x y v : Int64} (hd : decode c.code pc = .ok (.ladd, 1)) (hv : x + y = v) (hp : pc + 1 = pc') (r : Rn p e below (T.setTop (mkF m pc' L (.long v :: S))) G) : Rn p e below (T.setTop (mkF m pc L (.long y :: .long x :: S))) G := by
  subst hp hv; exact Rn.st (fun t q => XS.ladd X.here hx rfl hd rfl q) r
theorem R.isub (X : Stand p l e R s m args below meth c T locs cells slots) (hx : p.tables.exec = Jvm.exec) {x y v : Int32} (hd : decode c.code pc = .ok (.isub, 1)) (hv : x - y = v) (hp : pc + 1 = pc') (r : Rn p e below (T.setTop (mkF m pc' L (.int v :: S))) G) : Rn p e below (T.setTop (mkF m pc L (.int y :: .int x :: S))) G := by
  subst hp hv; exact Rn.st (fun t q => XS.isub X.here hx rfl hd rfl q) r
theorem R.lmul (X : Stand p l e R s m args below meth c T locs cells slots) (hx : p.tables.exec = Jvm.exec) {x y v : Int64} (hd : decode c.code pc = .ok (.lmul, 1)) (hv : x * y = v) (hp : pc + 1 = pc') (r : Rn p e below (T.setTop (mkF m pc' L (.long v :: S))) G) : Rn p e below (T.setTop (mkF m pc L (.long y :: .long x :: S))) G := by
  subst hp hv; exact Rn.st (fun t q => XS.lmul X.here hx rfl hd rfl q) r
theorem R.i2l (X : Stand p l e R s m args below meth c T locs cells slots) (hx : p.tables.exec = Jvm.exec) {x : Int32} (hd : decode c.code pc = .ok (.i2l, 1)) (hp : pc + 1 = pc') (r : Rn p e below (T.setTop (mkF m pc' L (.long (x.toInt64) :: S))) G) : Rn p e below (T.setTop (mkF m pc L (.int x :: S))) G := by
  subst hp; exact Rn.st (fun t q => XS.i2l X.here hx rfl hd rfl q) r
theorem R.ishl (X : Stand p l e R s m args below meth c T locs cells slots) (hx : p.tables.exec = Jvm.exec) {x : Int32} {y : Int32} (hd : decode c.code pc = .ok (.ishl, 1)) (hp : pc + 1 = pc') (r : Rn p e below (T.setTop (mkF m pc' L (.int (x <<< (y &&& 31)) :: S))) G) : Rn p e below (T.setTop (mkF m pc L (.int y :: .int x :: S))) G := by
  subst hp; exact Rn.st (fun t q => XS.ishl X.here hx rfl hd rfl q) r
theorem R.ishr (X : Stand p l e R s m args below meth c T locs cells slots) (hx : p.tables.exec = Jvm.exec) {x : Int32} {y : Int32} (hd : decode c.code pc = .ok (.ishr, 1)) (hp : pc + 1 = pc') (r : Rn p e below (T.setTop (mkF m pc' L (.int (x >>> (y &&& 31)) :: S))) G) : Rn p e below (T.setTop (mkF m pc L (.int y :: .int x :: S))) G := by
  subst hp; exact Rn.st (fun t q => XS.ishr X.here hx rfl hd rfl q) r
theorem R.iushr (X : Stand p l e R s m args below meth c T locs cells slots) (hx : p.tables.exec = Jvm.exec) {x : Int32} {y : Int32} (hd : decode c.code pc = .ok (.iushr, 1)) (hp : pc + 1 = pc') (r : Rn p e below (T.setTop (mkF m pc' L (.int ((x.toUInt32 >>> (y &&& 31).toUInt32).toInt32) :: S))) G) : Rn p e below (T.setTop (mkF m pc L (.int y :: .int x :: S))) G := by
  subst hp; exact Rn.st (fun t q => XS.iushr X.here hx rfl hd rfl q) r
theorem R.lcmp (X : Stand p l e R s m args below meth c T locs cells slots) (hx : p.tables.exec = Jvm.exec) {x y : Int64} (hd : decode c.code pc = .ok (.lcmp, 1)) (hp : pc + 1 = pc') (r : Rn p e below (T.setTop (mkF m pc' L (.int (lcmpW x y) :: S))) G) : Rn p e below (T.setTop (mkF m pc L (.long y :: .long x :: S))) G := by
  subst hp; exact Rn.st (fun t q => XS.lcmp X.here hx rfl hd rfl q) r
theorem R.irem (X : Stand p l e R s m args below meth c T locs cells slots) (hx : p.tables.exec = Jvm.exec) {x y : Int32} (hd : decode c.code pc = .ok (.irem, 1)) (hy : y ≠ 0) (hp : pc + 1 = pc') (r : Rn p e below (T.setTop (mkF m pc' L (.int (x % y) :: S))) G) : Rn p e below (T.setTop (mkF m pc L (.int y :: .int x :: S))) G := by
  subst hp; exact Rn.st (fun t q => iremM X hx rfl hd rfl hy q) r
theorem R.i2d (X : Stand p l e R s m args below meth c T locs cells slots) (hx : p.tables.exec = Jvm.exec) {x : Int32} (hd : decode c.code pc = .ok (.i2d, 1)) (hp : pc + 1 = pc') (r : Rn p e below (T.setTop (mkF m pc' L (.double (FP.i2d x) :: S))) G) : Rn p e below (T.setTop (mkF m pc L (.int x :: S))) G := by
  subst hp; exact Rn.st (fun t q => XS.i2dS X.here hx rfl hd rfl rfl q) r
theorem R.l2d (X : Stand p l e R s m args below meth c T locs cells slots) (hx : p.tables.exec = Jvm.exec) {x : Int64} (hd : decode c.code pc = .ok (.l2d, 1)) (hp : pc + 1 = pc') (r : Rn p e below (T.setTop (mkF m pc' L (.double (FP.l2d x) :: S))) G) : Rn p e below (T.setTop (mkF m pc L (.long x :: S))) G := by
  subst hp; exact Rn.st (fun t q => XS.l2dS X.here hx rfl hd rfl rfl q) r
theorem R.dadd (X : Stand p l e R s m args below meth c T locs cells slots) (hx : p.tables.exec = Jvm.exec) {x y : UInt64} (hd : decode c.code pc = .ok (.dadd, 1)) (hn : NoNaN64 (FP.dadd x y)) (hp : pc + 1 = pc') (r : Rn p e below (T.setTop (mkF m pc' L (.double (FP.dadd x y) :: S))) G) : Rn p e below (T.setTop (mkF m pc L (.double y :: .double x :: S))) G := by
  subst hp; exact Rn.st (fun t q => XS.daddS X.here hx rfl hd rfl hn rfl q) r
theorem R.dmul (X : Stand p l e R s m args below meth c T locs cells slots) (hx : p.tables.exec = Jvm.exec) {x y : UInt64} (hd : decode c.code pc = .ok (.dmul, 1)) (hn : NoNaN64 (FP.dmul x y)) (hp : pc + 1 = pc') (r : Rn p e below (T.setTop (mkF m pc' L (.double (FP.dmul x y) :: S))) G) : Rn p e below (T.setTop (mkF m pc L (.double y :: .double x :: S))) G := by
  subst hp; exact Rn.st (fun t q => XS.dmulS X.here hx rfl hd rfl hn rfl q) r
theorem R.dcmp (X : Stand p l e R s m args below meth c T locs cells slots) (hx : p.tables.exec = Jvm.exec) {o : CmpOp} {x y : UInt64} {v : Int32} (hd : decode c.code pc = .ok (.dcmp o, 1)) (hv : cmpValue (FP.dcmp x y) o = v) (hp : pc + 1 = pc') (r : Rn p e below (T.setTop (mkF m pc' L (.int v :: S))) G) : Rn p e below (T.setTop (mkF m pc L (.double y :: .double x :: S))) G := by
  subst hp; exact Rn.st (fun t q => XS.dcmpS X.here hx rfl hd rfl hv q) r
theorem R.iinc (X : Stand p l e R s m args below meth c T locs cells slots) (hx : p.tables.exec = Jvm.exec) {k : Nat} {cst : Int} {x : Int32} (hd : decode c.code pc = .ok (.iinc k cst, 3)) (hl : L[k]? = some (.val (.int x))) (hl' : storeLocals L k (.int (x + Int32.ofInt cst)) = some L') (hp : pc + 3 = pc') (r : Rn p e below (T.setTop (mkF m pc' L' (S))) G) : Rn p e below (T.setTop (mkF m pc L (S))) G := by
  subst hp; exact Rn.st (fun t q => XS.iinc X.here hx rfl hd hl hl' q) r
theorem R.dup (X : Stand p l e R s m args below meth c T locs cells slots) (hx : p.tables.exec = Jvm.exec) {x : Value} (hd : decode c.code pc = .ok (.dup, 1)) (hc : x.category = 1) (hp : pc + 1 = pc') (r : Rn p e below (T.setTop (mkF m pc' L (x :: x :: S))) G) : Rn p e below (T.setTop (mkF m pc L (x :: S))) G := by
  subst hp; exact Rn.st (fun t q => XS.dup X.here hx rfl hd rfl hc q) r
theorem R.dup2 (X : Stand p l e R s m args below meth c T locs cells slots) (hx : p.tables.exec = Jvm.exec) {x y : Value} (hd : decode c.code pc = .ok (.dup2, 1)) (hc : x.category = 1) (hc' : y.category = 1) (hp : pc + 1 = pc') (r : Rn p e below (T.setTop (mkF m pc' L (x :: y :: x :: y :: S))) G) : Rn p e below (T.setTop (mkF m pc L (x :: y :: S))) G := by
  subst hp; exact Rn.st (fun t q => Jvm.Free.XT.dup2 X.here hx rfl hd rfl hc hc' q) r
theorem R.ifNo (X : Stand p l e R s m args below meth c T locs cells slots) (hx : p.tables.exec = Jvm.exec) {cd : ClassFile.Cond} {x : Int32} {o : Int} (hd : decode c.code pc = .ok (.ifCond cd o, 3)) (hc : if_icmp.holds cd x 0 = false) (hp : pc + 3 = pc') (r : Rn p e below (T.setTop (mkF m pc' L (S))) G) : Rn p e below (T.setTop (mkF m pc L (.int x :: S))) G := by
  subst hp; exact Rn.st (fun t q => XS.ifNo X.here hx rfl hd rfl ((if0 _ _).trans hc) q) r
theorem R.icmpYes (X : Stand p l e R s m args below meth c T locs cells slots) (hx : p.tables.exec = Jvm.exec) {cd : ClassFile.Cond} {x y : Int32} {o : Int} (hd : decode c.code pc = .ok (.if_icmp cd o, 3)) (hc : if_icmp.holds cd x y = true) (ho : 0 ≤ (pc : Int) + o) (hp : ((pc : Int) + o).toNat = pc') (r : Rn p e below (T.setTop (mkF m pc' L S)) G) : Rn p e below (T.setTop (mkF m pc L (.int y :: .int x :: S))) G :=
  Rn.st (fun t q => XS.icmpYes X.here hx rfl rfl hd rfl hc ho hp q) r
theorem R.icmpNo (X : Stand p l e R s m args below meth c T locs cells slots) (hx : p.tables.exec = Jvm.exec) {cd : ClassFile.Cond} {x y : Int32} {o : Int} (hd : decode c.code pc = .ok (.if_icmp cd o, 3)) (hc : if_icmp.holds cd x y = false) (hp : pc + 3 = pc') (r : Rn p e below (T.setTop (mkF m pc' L (S))) G) : Rn p e below (T.setTop (mkF m pc L (.int y :: .int x :: S))) G := by
  subst hp; exact Rn.st (fun t q => XS.icmpNo X.here hx rfl hd rfl hc q) r
theorem R.goto (X : Stand p l e R s m args below meth c T locs cells slots) (hx : p.tables.exec = Jvm.exec)  {o : Int} (hd : decode c.code pc = .ok (.goto o, 3)) (ho : 0 ≤ (pc : Int) + o) (hp : ((pc : Int) + o).toNat = pc') (r : Rn p e below (T.setTop (mkF m pc' L S)) G) : Rn p e below (T.setTop (mkF m pc L (S))) G :=
  Rn.st (fun t q => XS.goto X.here hx rfl rfl hd ho hp q) r
end RSteps
section RBig
variable {p : Program} {l : Launch} {e : Env} {R : Room} {s : State} {m : MethodId} {args : Array Value} {below : List Frame} {meth : Method} {c : Code} {T : State} {locs : List Loc} {cells slots : Nat} {G : Outcome → State → Prop} {L L' : Array Slot} {S : List Value} {pc pc' : Nat} {Z : State} {a0 : Array Value} {h : Heap} {a : Addr} {own : String} {index : Nat}
theorem R.newP (X : Stand p l e R s m args below meth c T locs cells slots) (hx : p.tables.exec = Jvm.exec) (hZ : Z.Warmed39 s.vm) {aty : ArrayType} {ty : FieldType} (hty : newarray.typeOf aty = ty) (w : (Jvm.Cond.arrayClass ty).before a0 Z = true) (eT : T.heap = h) {n : Int32} (hn : ¬ n < 0) {cap : Nat} (hcap : n.toNatClampNeg ≤ cap) (hb : cap * 8 ≤ 536870912) {ad : String} (had : "[" ++ ty.toString = ad)
    (hd : decode c.code pc = .ok (.newarray aty, 2)) (hp : pc + 2 = pc') (hc : cells + 1 ≤ R.cells) (hl : slots + cap ≤ R.slots)
    (K : ∀ T' h' b k, b = h.size → Stand p l e R s m args below meth c T' locs (cells + 1) (slots + cap) → T'.heap = h' → Ext h h' → Exa Z h' b ad → Arh Z h' b k ty n [] [] (defaultValue ty) → Rn p e below (T'.setTop (mkF m pc' L (.ref b :: S))) G) : Rn p e below (T.setTop (mkF m pc L (.int n :: S))) G := by
  subst hp hty
  obtain ⟨T', h', k, X', e', E', A', EE, st⟩ := newPE X hx hZ w eT (g := mkF m pc L (.int n :: S)) rfl hd rfl hn hcap hb hc hl had
  exact Rn.st st (K T' h' _ k rfl X' e' E' EE (Arv.new A' hn).arh)
section Arr
variable {k : ClassId} {z : Int32} {hs : List (Int32 × Value)} {vs : List Value} {dv : Value} {j : Int32}
theorem R.alen (X : Stand p l e R s m args below meth c T locs cells slots) (hx : p.tables.exec = Jvm.exec) (hZ : Z.Warmed39 s.vm) (eT : T.heap = h) {ty : FieldType} (F : Arh Z h a k ty z hs vs dv) (hd : decode c.code pc = .ok (.arraylength, 1)) (hp : pc + 1 = pc') (r : Rn p e below (T.setTop (mkF m pc' L (.int z :: S))) G) : Rn p e below (T.setTop (mkF m pc L (.ref a :: S))) G := by
  subst hp
  obtain ⟨cl, Ar, qA, SA, NA, HA, GA⟩ := F
  exact Rn.st (fun t q => X.arraylength hx (by rw [eT]; exact Ar.1) (State.isArrayOf_alike hZ.alike Ar.2.1) (g := mkF m pc L (.ref a :: S)) rfl rfl hd _ (by rw [len_of SA NA]; exact q)) r
theorem R.daload (X : Stand p l e R s m args below meth c T locs cells slots) (hx : p.tables.exec = Jvm.exec) (hZ : Z.Warmed39 s.vm) (eT : T.heap = h) (F : Arh Z h a k .double z hs vs dv) (hb : ¬ j < 0 ∧ j < z) {v : Value} (hv : getH hs vs dv j.toNatClampNeg = v) (hd : decode c.code pc = .ok (.daload, 1)) (hp : pc + 1 = pc') (r : Rn p e below (T.setTop (mkF m pc' L (v :: S))) G) : Rn p e below (T.setTop (mkF m pc L (.int j :: .ref a :: S))) G := by
  subst hp
  obtain ⟨cl, Ar, qA, SA, NA, HA, GA⟩ := F
  have hin := inb_of SA hb
  exact Rn.st (fun t q => X.daload hx (by rw [eT]; exact Ar.1) (State.isArrayOf_alike hZ.alike Ar.2.1) Ar.2.2 hin (atH HA hin hv) (g := mkF m pc L (.int j :: .ref a :: S)) rfl rfl hd _ q) r
theorem R.dastore (X : Stand p l e R s m args below meth c T locs cells slots) (hx : p.tables.exec = Jvm.exec) (hZ : Z.Warmed39 s.vm) (eT : T.heap = h) (F : Arh Z h a k .double z hs vs dv) (hb : ¬ j < 0 ∧ j < z) {x : UInt64} (hd : decode c.code pc = .ok (.dastore, 1)) (hp : pc + 1 = pc')
    (K : ∀ T' h', Stand p l e R s m args below meth c T' (locs ++ [⟨a, j.toNatClampNeg⟩]) cells slots → T'.heap = h' → Wr h h' a j.toNatClampNeg (.double x) → Arh Z h' a k .double z ((j, .double x) :: hs) vs dv → Rn p e below (T'.setTop (mkF m pc' L S)) G) : Rn p e below (T.setTop (mkF m pc L (.double x :: .int j :: .ref a :: S))) G := by
  subst hp
  obtain ⟨cl, Ar, qA, SA, NA, HA, GA⟩ := F
  have hin := inb_of SA hb
  obtain ⟨T', h', X', e', W', st⟩ := stD X hx hZ eT Ar (j := j) hin (g := mkF m pc L (.double x :: .int j :: .ref a :: S)) rfl rfl hd
  exact Rn.st st (K T' h' X' e' W' (Arh.push Ar qA SA NA HA GA rfl W' hin))
end Arr
section Calls
variable {y : MethodName} {bytes : ByteArray} {maxL : Nat} {ret : Option FieldType} {rm : Room} {as' : List Value} {Q : Option Value → Heap → List Loc → Prop} {S0 : List Value} {W : Nat}
theorem R.callS (X : Stand p l e R s m args below meth c T locs cells slots) (hx : p.tables.exec = Jvm.exec) (hZ : Z.Warmed39 s.vm) (hown : s.vm.findClass own = some m.cls) (w1 : (Jvm.Cond.methodLink own index y).before a0 Z = true) (w2 : (Jvm.Cond.static y).before a0 Z = true) (w3 : (Jvm.Cond.initialized y.cls).before a0 Z = true) (w4 : (Jvm.Cond.code y bytes maxL ret).before a0 Z = true) (hy : y.cls ≠ "java/lang/invoke/MethodHandle" ∧ y.cls ≠ "java/lang/invoke/VarHandle") (eT : T.heap = h)
    (hM : MetFree l y (head1 [Jvm.Cond.code y bytes maxL ret] rm) (fun a U => a = as'.toArray ∧ Z.Warmed39 U.vm ∧ U.heap = h) (fun _ _ _ _ _ => True) (fun _ U o U' => ∃ v L, o = .returned v ∧ Q v U'.heap L ∧ FrameEnd U o U' L rm.cells rm.slots))
    (hf : rm.frames + 1 ≤ R.frames) (hW : (S.map fun v => v.category).sum ≤ W) (hl : W + (maxL + 11) + rm.locals ≤ R.locals) (hsize : L.size = c.maxLocals) (hlen : ∀ sig, parseMethodDescriptor y.desc = some sig → as'.length = sig.parameters.length) (hst : S0 = as'.reverse ++ S) (hd : decode c.code pc = .ok (.invokestatic index, 3)) (hp : pc + 3 = pc') (hc : cells + rm.cells ≤ R.cells) (hs : slots + rm.slots ≤ R.slots)
    (K : ∀ v T' L1, Stand p l e R s m args below meth c T' (locs ++ L1) (cells + rm.cells) (slots + rm.slots) → Q v T'.heap L1 → Rn p e below (T'.setTop (mkF m pc' L (v.toList ++ S))) G) : Rn p e below (T.setTop (mkF m pc L S0)) G := by
  subst hp
  obtain ⟨v, vm1, ⟨T', L2, k', n'⟩, -, X', ⟨Lc, hQ, l1, y1, z1⟩, st⟩ := Jvm.LawKit.callS X hx (y := y) hown (mvT hZ w1) (mvT hZ w2) (mvT hZ w3) (mvT hZ w4) hy (backOf (W := W) hM hZ w4 w3 hf hl) (g := mkF m pc L S0) rfl hsize (argsL := as') (rest := S) hlen hst (by show 2 * 0 + _ ≤ W; rw [Nat.mul_zero, Nat.zero_add]; exact hW) hd (fun _ _ => ⟨rfl, eT, hc, hs⟩)
  dsimp only [Pt.U, Pt.locs, Pt.cells, Pt.slots] at X' l1 y1 z1 st hQ
  subst l1 y1 z1
  exact Rn.st st (K v T' Lc X' hQ)
end Calls
end RBig
/-- |x| is at most n, kept from omega's eyes -/
def own_ab (x : Int) (n : Nat) : Prop := x.natAbs ≤ n
theorem own_ab.mul {a b : Int} {A B : Nat} (ha : own_ab a A) (hb : own_ab b B) : own_ab (a * b) (A * B) := own_pb ha hb
theorem own_ab.add {a b : Int} {A B : Nat} (ha : own_ab a A) (hb : own_ab b B) : own_ab (a + b) (A + B) := Nat.le_trans (Int.natAbs_add_le a b) (Nat.add_le_add ha hb)
theorem own_ab.lt {a : Int} {A : Nat} (ha : own_ab a A) (h : A < 2 ^ 53) : a.natAbs < 2 ^ 53 := Nat.lt_of_le_of_lt ha h
theorem own_ab.ltn {a : Int} {A B : Nat} (ha : own_ab a A) (h : A < B) : a.natAbs < B := Nat.lt_of_le_of_lt ha h
theorem own_ab0 : own_ab 0 0 := Nat.le_refl 0
theorem own_ab01 : own_ab 0 1048576 := Nat.zero_le _
theorem own_zero : Dy (0 : UInt64) 0 0 := Dy.lit false 0 (-1074) (by decide +kernel) (by decide +kernel)
theorem own_three {p : Int32} (hp : p = (1 : Int32) ∨ p = (2 : Int32) ∨ p = (3 : Int32)) (h1 : ¬ p = (1 : Int32)) (h2 : ¬ p = (2 : Int32)) : p = (3 : Int32) := by rcases hp with h | h | h; exact absurd h h1; exact absurd h h2; exact h
theorem own_in0 {p : Int32} (hp : p = (1 : Int32) ∨ p = (2 : Int32) ∨ p = (3 : Int32)) : ¬ (0 : Int32) < 0 ∧ (0 : Int32) < p := by rcases hp with rfl | rfl | rfl <;> decide
theorem own_lc0 {m : Int64} : lcmpW m (0 : Int64) = (0 : Int32) ↔ m.toInt = 0 := by
  have c := c_lcmp m (0 : Int64)
  have e : (0 : Int64).toInt = 0 := by decide
  rw [e] at c
  rw [← Int32.toInt_inj]
  show (lcmpW m 0).toInt = 0 ↔ _
  constructor
  · intro q
    rcases Int.lt_trichotomy m.toInt 0 with g | g | g
    · have := c.1 g; omega
    · exact g
    · have := c.2.2 g; omega
  · intro q; exact c.2.1 q
theorem own_len {a r : Int32} (h : ((1 : Int32) + (((a.toUInt32 >>> ((28 : Int32) &&& 31).toUInt32).toInt32) % (3 : Int32))) = r) : r = (1 : Int32) ∨ r = (2 : Int32) ∨ r = (3 : Int32) := by
  have q := c_iushr a 28 28 (by decide) (by decide)
  have l1 := Int.emod_nonneg a.toInt (show (4294967296 : Int) ≠ 0 by decide)
  have t := (c_irem ((a.toUInt32 >>> ((28 : Int32) &&& 31).toUInt32).toInt32) (3 : Int32) 3 (by decide)).1 (by rw [q]; exact Int.ediv_nonneg l1 (by decide))
  have l2 := Int.emod_nonneg ((a.toUInt32 >>> ((28 : Int32) &&& 31).toUInt32).toInt32).toInt (show (3 : Int) ≠ 0 by decide)
  have l3 := Int.emod_lt_of_pos ((a.toUInt32 >>> ((28 : Int32) &&& 31).toUInt32).toInt32).toInt (show (0 : Int) < 3 by decide)
  rw [← t] at l2 l3
  have e1 : (1 : Int32).toInt = 1 := by decide
  have er : r.toInt = 1 + (((a.toUInt32 >>> ((28 : Int32) &&& 31).toUInt32).toInt32) % (3 : Int32)).toInt := by rw [← h, own_addI] <;> rw [e1]; omega
  have k : r.toInt = 1 ∨ r.toInt = 2 ∨ r.toInt = 3 := by omega
  rcases k with k | k | k
  · exact Or.inl (Int32.toInt_inj.mp (k.trans (by decide)))
  · exact Or.inr (Or.inl (Int32.toInt_inj.mp (k.trans (by decide))))
  · exact Or.inr (Or.inr (Int32.toInt_inj.mp (k.trans (by decide))))
theorem own_cb {a r : Int32} (h : ((a <<< ((11 : Int32) &&& 31)) >>> ((11 : Int32) &&& 31)) = r) : r.toInt.natAbs ≤ 1048576 := by
  have b := own_b (a <<< ((11 : Int32) &&& 31))
  rw [← h, c_ishr _ 11 11 (by decide)]
  show ((a <<< ((11 : Int32) &&& 31)).toInt / 2048).natAbs ≤ 1048576
  omega
theorem own_rz0 {la lb : Int32} {A1 A2 B1 B2 A0 B0 a1 a2 b1 b2 : Int} (hla : la = (1 : Int32) ∨ la = (2 : Int32) ∨ la = (3 : Int32)) (hlb : lb = (1 : Int32) ∨ lb = (2 : Int32) ∨ lb = (3 : Int32)) (q : ¬ (0 : Int32) < ((la + lb) - (1 : Int32))) (u18 : (1 : Int32) < la → A1 = a1) (w18 : ¬ (1 : Int32) < la → A1 = 0) (u20 : (2 : Int32) < la → A2 = a2) (w20 : ¬ (2 : Int32) < la → A2 = 0) (u24 : (1 : Int32) < lb → B1 = b1) (w24 : ¬ (1 : Int32) < lb → B1 = 0) (u26 : (2 : Int32) < lb → B2 = b2) (w26 : ¬ (2 : Int32) < lb → B2 = 0) : A0 * B0 = 0 := by
  rcases hla with rfl | rfl | rfl <;> rcases hlb with rfl | rfl | rfl <;> first | exact absurd (by decide) q | (simp [w18 (by decide), w20 (by decide), w24 (by decide), w26 (by decide)]; done) | (simp [w20 (by decide), w24 (by decide), w26 (by decide)]; done) | (simp [w18 (by decide), w20 (by decide), w26 (by decide)]; done) | (simp [w20 (by decide), w26 (by decide)]; done) | (simp [w18 (by decide), w20 (by decide)]; done) | (simp [w24 (by decide), w26 (by decide)]; done) | (simp [w20 (by decide)]; done) | (simp [w26 (by decide)]; done)
theorem own_rz1 {la lb : Int32} {A1 A2 B1 B2 A0 B0 a1 a2 b1 b2 : Int} (hla : la = (1 : Int32) ∨ la = (2 : Int32) ∨ la = (3 : Int32)) (hlb : lb = (1 : Int32) ∨ lb = (2 : Int32) ∨ lb = (3 : Int32)) (q : ¬ (1 : Int32) < ((la + lb) - (1 : Int32))) (u18 : (1 : Int32) < la → A1 = a1) (w18 : ¬ (1 : Int32) < la → A1 = 0) (u20 : (2 : Int32) < la → A2 = a2) (w20 : ¬ (2 : Int32) < la → A2 = 0) (u24 : (1 : Int32) < lb → B1 = b1) (w24 : ¬ (1 : Int32) < lb → B1 = 0) (u26 : (2 : Int32) < lb → B2 = b2) (w26 : ¬ (2 : Int32) < lb → B2 = 0) : A0 * B1 + A1 * B0 = 0 := by
  rcases hla with rfl | rfl | rfl <;> rcases hlb with rfl | rfl | rfl <;> first | exact absurd (by decide) q | (simp [w18 (by decide), w20 (by decide), w24 (by decide), w26 (by decide)]; done) | (simp [w20 (by decide), w24 (by decide), w26 (by decide)]; done) | (simp [w18 (by decide), w20 (by decide), w26 (by decide)]; done) | (simp [w20 (by decide), w26 (by decide)]; done) | (simp [w18 (by decide), w20 (by decide)]; done) | (simp [w24 (by decide), w26 (by decide)]; done) | (simp [w20 (by decide)]; done) | (simp [w26 (by decide)]; done)
theorem own_rz2 {la lb : Int32} {A1 A2 B1 B2 A0 B0 a1 a2 b1 b2 : Int} (hla : la = (1 : Int32) ∨ la = (2 : Int32) ∨ la = (3 : Int32)) (hlb : lb = (1 : Int32) ∨ lb = (2 : Int32) ∨ lb = (3 : Int32)) (q : ¬ (2 : Int32) < ((la + lb) - (1 : Int32))) (u18 : (1 : Int32) < la → A1 = a1) (w18 : ¬ (1 : Int32) < la → A1 = 0) (u20 : (2 : Int32) < la → A2 = a2) (w20 : ¬ (2 : Int32) < la → A2 = 0) (u24 : (1 : Int32) < lb → B1 = b1) (w24 : ¬ (1 : Int32) < lb → B1 = 0) (u26 : (2 : Int32) < lb → B2 = b2) (w26 : ¬ (2 : Int32) < lb → B2 = 0) : A0 * B2 + A1 * B1 + A2 * B0 = 0 := by
  rcases hla with rfl | rfl | rfl <;> rcases hlb with rfl | rfl | rfl <;> first | exact absurd (by decide) q | (simp [w18 (by decide), w20 (by decide), w24 (by decide), w26 (by decide)]; done) | (simp [w20 (by decide), w24 (by decide), w26 (by decide)]; done) | (simp [w18 (by decide), w20 (by decide), w26 (by decide)]; done) | (simp [w20 (by decide), w26 (by decide)]; done) | (simp [w18 (by decide), w20 (by decide)]; done) | (simp [w24 (by decide), w26 (by decide)]; done) | (simp [w20 (by decide)]; done) | (simp [w26 (by decide)]; done)
theorem own_rz3 {la lb : Int32} {A1 A2 B1 B2 A0 B0 a1 a2 b1 b2 : Int} (hla : la = (1 : Int32) ∨ la = (2 : Int32) ∨ la = (3 : Int32)) (hlb : lb = (1 : Int32) ∨ lb = (2 : Int32) ∨ lb = (3 : Int32)) (q : ¬ (3 : Int32) < ((la + lb) - (1 : Int32))) (u18 : (1 : Int32) < la → A1 = a1) (w18 : ¬ (1 : Int32) < la → A1 = 0) (u20 : (2 : Int32) < la → A2 = a2) (w20 : ¬ (2 : Int32) < la → A2 = 0) (u24 : (1 : Int32) < lb → B1 = b1) (w24 : ¬ (1 : Int32) < lb → B1 = 0) (u26 : (2 : Int32) < lb → B2 = b2) (w26 : ¬ (2 : Int32) < lb → B2 = 0) : A1 * B2 + A2 * B1 = 0 := by
  rcases hla with rfl | rfl | rfl <;> rcases hlb with rfl | rfl | rfl <;> first | exact absurd (by decide) q | (simp [w18 (by decide), w20 (by decide), w24 (by decide), w26 (by decide)]; done) | (simp [w20 (by decide), w24 (by decide), w26 (by decide)]; done) | (simp [w18 (by decide), w20 (by decide), w26 (by decide)]; done) | (simp [w20 (by decide), w26 (by decide)]; done) | (simp [w18 (by decide), w20 (by decide)]; done) | (simp [w24 (by decide), w26 (by decide)]; done) | (simp [w20 (by decide)]; done) | (simp [w26 (by decide)]; done)
theorem own_rz4 {la lb : Int32} {A1 A2 B1 B2 A0 B0 a1 a2 b1 b2 : Int} (hla : la = (1 : Int32) ∨ la = (2 : Int32) ∨ la = (3 : Int32)) (hlb : lb = (1 : Int32) ∨ lb = (2 : Int32) ∨ lb = (3 : Int32)) (q : ¬ (4 : Int32) < ((la + lb) - (1 : Int32))) (u18 : (1 : Int32) < la → A1 = a1) (w18 : ¬ (1 : Int32) < la → A1 = 0) (u20 : (2 : Int32) < la → A2 = a2) (w20 : ¬ (2 : Int32) < la → A2 = 0) (u24 : (1 : Int32) < lb → B1 = b1) (w24 : ¬ (1 : Int32) < lb → B1 = 0) (u26 : (2 : Int32) < lb → B2 = b2) (w26 : ¬ (2 : Int32) < lb → B2 = 0) : A2 * B2 = 0 := by
  rcases hla with rfl | rfl | rfl <;> rcases hlb with rfl | rfl | rfl <;> first | exact absurd (by decide) q | (simp [w18 (by decide), w20 (by decide), w24 (by decide), w26 (by decide)]; done) | (simp [w20 (by decide), w24 (by decide), w26 (by decide)]; done) | (simp [w18 (by decide), w20 (by decide), w26 (by decide)]; done) | (simp [w20 (by decide), w26 (by decide)]; done) | (simp [w18 (by decide), w20 (by decide)]; done) | (simp [w24 (by decide), w26 (by decide)]; done) | (simp [w20 (by decide)]; done) | (simp [w26 (by decide)]; done)
theorem d1_0 : decode method_2_code 0 = .ok (.iload_n 0, 1) := by decide +kernel
theorem d1_1 : decode method_2_code 1 = .ok (.bipush 11, 2) := by decide +kernel
theorem d1_3 : decode method_2_code 3 = .ok (.ishl, 1) := by decide +kernel
theorem d1_4 : decode method_2_code 4 = .ok (.bipush 11, 2) := by decide +kernel
theorem d1_6 : decode method_2_code 6 = .ok (.ishr, 1) := by decide +kernel
theorem d1_7 : decode method_2_code 7 = .ok (.ireturn, 1) := by decide +kernel
theorem pn_0 : plainName "com/example/deseason/deseason/arima/PolynomialsMultiplyPinLaw" = true := by first | (simp [plainName, overriddenIn]; done) | decide +kernel
theorem ef_1 (m : MethodId) (x0 : Int32) : entryFrame m #[(.int x0)] 1 = mkF m 0 #[.val (.int x0)] [] := by first | (simp [entryFrame, mkF, argsToLocals, Value.category]; done) | rfl
def Q1 (Z : State) (p0 : Int32) (h0 : Heap) (n0 : Nat) (vQ : Option Value) (hQ_ : Heap) (LQ : List Loc) : Prop := vQ = some (.int ((p0 <<< ((11 : Int32) &&& 31)) >>> ((11 : Int32) &&& 31))) ∧ Fr n0 LQ ∧ hQ_ = h0
def Fn1 (Z : State) (p0 : Int32) (h0 : Heap) (n0 : Nat) (sQ : State) (oQ : Outcome) (UQ : State) : Prop := ∃ vQ LQ, oQ = .returned vQ ∧ Q1 Z p0 h0 n0 vQ UQ.heap LQ ∧ FrameEnd sQ oQ UQ LQ ({ frames := 0, cells := 0, slots := 0, locals := 0 } : Room).cells ({ frames := 0, cells := 0, slots := 0, locals := 0 } : Room).slots
set_option maxRecDepth 65536 in
set_option maxHeartbeats 40000000 in
theorem rm1 (l : Launch) (Z : State) (aZ : Array Value) (hw : ∀ d ∈ tables_1, d.before aZ Z = true) (ws : List Jvm.Cond) (p0 : Int32) (h0 : Heap) (n0 : Nat) (Z0 : n0 ≤ h0.size) :
    MetFree l (⟨"com/example/deseason/deseason/arima/PolynomialsMultiplyPinLaw", "coef", "(I)I"⟩ : MethodName) (head1 (Jvm.Cond.code (⟨"com/example/deseason/deseason/arima/PolynomialsMultiplyPinLaw", "coef", "(I)I"⟩ : MethodName) method_2_code 1 (some .int) :: ws) ({ frames := 0, cells := 0, slots := 0, locals := 0 } : Room)) (fun aQ UQ => aQ = #[(.int p0)] ∧ Z.Warmed39 UQ.vm ∧ UQ.heap = h0) (fun _ _ _ _ _ => True) (fun _ UQ oQ UR => ∃ vQ LQ, oQ = .returned vQ ∧ Q1 Z p0 h0 n0 vQ UR.heap LQ ∧ FrameEnd UQ oQ UR LQ ({ frames := 0, cells := 0, slots := 0, locals := 0 } : Room).cells ({ frames := 0, cells := 0, slots := 0, locals := 0 } : Room).slots) := by
  refine MetFree.of_bodySF (plainFor_of_name pn_0) hisR ?_
  intro p e s m args below meth c s₁ Bd hml0 hP hK
  obtain ⟨rfl, hZ, hh⟩ := hP
  have hx := Bd.exec
  have hby := Bd.bytes
  have hml : c.maxLocals = 1 := hml0
  have hown : s.vm.findClass "com/example/deseason/deseason/arima/PolynomialsMultiplyPinLaw" = some m.cls := findClass_of_methodNamed Bd.named
  have hnm := (name_of_methodNamed Bd.named Bd.method).1
  have X0 : Stand p l e ({ frames := 0, cells := 0, slots := 0, locals := 0 } : Room) s m #[(.int p0)] below meth c s₁ [] 0 0 := Stand.of_body Bd
  have e0 : s₁.heap = h0 := by rw [← hh, Bd.state]; rfl
  have N0 := Fr.nil n0
  have K0 : Keep h0 h0 [] := Keep.refl _ _
  have first_ : Rn p e below (s₁.setTop (mkF m 0 #[.val (.int p0)] [])) (Fn1 Z p0 h0 n0 s) := by
    generalize hG : (Fn1 Z p0 h0 n0 s) = G
    refine R.iloadN X0 hx (hb hby d1_0) rfl (pc' := 1) rfl ?_
    refine R.bipush X0 hx (hb hby d1_1) (v := (11 : Int32)) (by decide) (pc' := 3) rfl ?_
    refine R.ishl X0 hx (hb hby d1_3) (pc' := 4) rfl ?_
    refine R.bipush X0 hx (hb hby d1_4) (v := (11 : Int32)) (by decide) (pc' := 6) rfl ?_
    refine R.ishr X0 hx (hb hby d1_6) (pc' := 7) rfl ?_
    rw [← hG]
    exact Rn.ret X0 (BodyLoose.notSynchronized Bd) (v := some (.int ((p0 <<< ((11 : Int32) &&& 31)) >>> ((11 : Int32) &&& 31)))) (fun h => by rw [Bd.returns] at h; cases h) (Q := Q1 Z p0 h0 n0) e0 (fun fs hr => retOut X0 hx (t := .int) Bd.returns rfl (Or.inl ⟨rfl, Or.inl rfl, _, rfl⟩) (hb hby d1_7) hr) ⟨rfl, N0, rfl⟩ (by decide) (by decide)
  exact (Rn.st (fun t k => castTop (ef_1 m p0) k) first_ : Rn p e below (s₁.setTop (entryFrame m #[(.int p0)] 1)) (Fn1 Z p0 h0 n0 s))
theorem d2_0 : decode method_3_code 0 = .ok (.iload_n 0, 1) := by decide +kernel
theorem d2_1 : decode method_3_code 1 = .ok (.iconst 1, 1) := by decide +kernel
theorem d2_2 : decode method_3_code 2 = .ok (.if_icmp .ne 12, 3) := by decide +kernel
theorem d2_5 : decode method_3_code 5 = .ok (.iconst 1, 1) := by decide +kernel
theorem d2_6 : decode method_3_code 6 = .ok (.newarray .double, 2) := by decide +kernel
theorem d2_8 : decode method_3_code 8 = .ok (.dup, 1) := by decide +kernel
theorem d2_9 : decode method_3_code 9 = .ok (.iconst 0, 1) := by decide +kernel
theorem d2_10 : decode method_3_code 10 = .ok (.iload_n 1, 1) := by decide +kernel
theorem d2_11 : decode method_3_code 11 = .ok (.i2d, 1) := by decide +kernel
theorem d2_12 : decode method_3_code 12 = .ok (.dastore, 1) := by decide +kernel
theorem d2_13 : decode method_3_code 13 = .ok (.areturn, 1) := by decide +kernel
theorem d2_14 : decode method_3_code 14 = .ok (.iload_n 0, 1) := by decide +kernel
theorem d2_15 : decode method_3_code 15 = .ok (.iconst 2, 1) := by decide +kernel
theorem d2_16 : decode method_3_code 16 = .ok (.if_icmp .ne 17, 3) := by decide +kernel
theorem d2_19 : decode method_3_code 19 = .ok (.iconst 2, 1) := by decide +kernel
theorem d2_20 : decode method_3_code 20 = .ok (.newarray .double, 2) := by decide +kernel
theorem d2_22 : decode method_3_code 22 = .ok (.dup, 1) := by decide +kernel
theorem d2_23 : decode method_3_code 23 = .ok (.iconst 0, 1) := by decide +kernel
theorem d2_24 : decode method_3_code 24 = .ok (.iload_n 1, 1) := by decide +kernel
theorem d2_25 : decode method_3_code 25 = .ok (.i2d, 1) := by decide +kernel
theorem d2_26 : decode method_3_code 26 = .ok (.dastore, 1) := by decide +kernel
theorem d2_27 : decode method_3_code 27 = .ok (.dup, 1) := by decide +kernel
theorem d2_28 : decode method_3_code 28 = .ok (.iconst 1, 1) := by decide +kernel
theorem d2_29 : decode method_3_code 29 = .ok (.iload_n 2, 1) := by decide +kernel
theorem d2_30 : decode method_3_code 30 = .ok (.i2d, 1) := by decide +kernel
theorem d2_31 : decode method_3_code 31 = .ok (.dastore, 1) := by decide +kernel
theorem d2_32 : decode method_3_code 32 = .ok (.areturn, 1) := by decide +kernel
theorem d2_33 : decode method_3_code 33 = .ok (.iconst 3, 1) := by decide +kernel
theorem d2_34 : decode method_3_code 34 = .ok (.newarray .double, 2) := by decide +kernel
theorem d2_36 : decode method_3_code 36 = .ok (.dup, 1) := by decide +kernel
theorem d2_37 : decode method_3_code 37 = .ok (.iconst 0, 1) := by decide +kernel
theorem d2_38 : decode method_3_code 38 = .ok (.iload_n 1, 1) := by decide +kernel
theorem d2_39 : decode method_3_code 39 = .ok (.i2d, 1) := by decide +kernel
theorem d2_40 : decode method_3_code 40 = .ok (.dastore, 1) := by decide +kernel
theorem d2_41 : decode method_3_code 41 = .ok (.dup, 1) := by decide +kernel
theorem d2_42 : decode method_3_code 42 = .ok (.iconst 1, 1) := by decide +kernel
theorem d2_43 : decode method_3_code 43 = .ok (.iload_n 2, 1) := by decide +kernel
theorem d2_44 : decode method_3_code 44 = .ok (.i2d, 1) := by decide +kernel
theorem d2_45 : decode method_3_code 45 = .ok (.dastore, 1) := by decide +kernel
theorem d2_46 : decode method_3_code 46 = .ok (.dup, 1) := by decide +kernel
theorem d2_47 : decode method_3_code 47 = .ok (.iconst 2, 1) := by decide +kernel
theorem d2_48 : decode method_3_code 48 = .ok (.iload_n 3, 1) := by decide +kernel
theorem d2_49 : decode method_3_code 49 = .ok (.i2d, 1) := by decide +kernel
theorem d2_50 : decode method_3_code 50 = .ok (.dastore, 1) := by decide +kernel
theorem d2_51 : decode method_3_code 51 = .ok (.areturn, 1) := by decide +kernel
theorem ef_2 (m : MethodId) (x0 : Int32) (x1 : Int32) (x2 : Int32) (x3 : Int32) : entryFrame m #[(.int x0), (.int x1), (.int x2), (.int x3)] 4 = mkF m 0 #[.val (.int x0), .val (.int x1), .val (.int x2), .val (.int x3)] [] := by first | (simp [entryFrame, mkF, argsToLocals, Value.category]; done) | rfl
def Q2 (Z : State) (p0 : Int32) (p1 : Int32) (p2 : Int32) (p3 : Int32) (h0 : Heap) (n0 : Nat) (vQ : Option Value) (hQ_ : Heap) (LQ : List Loc) : Prop := ∃ r : Addr, ∃ kr : ClassId, ∃ hr : List (Int32 × Value), vQ = some (.ref r) ∧ Fr n0 LQ ∧ Keep h0 hQ_ [] ∧ (h0.size ≤ r) ∧ (Arh Z hQ_ r kr .double p0 hr [] (.double (0 : UInt64))) ∧ (getH hr [] (.double (0 : UInt64)) ((0 : Int32)).toNatClampNeg = (.double (FP.i2d p1))) ∧ ((1 : Int32) < p0 → getH hr [] (.double (0 : UInt64)) ((1 : Int32)).toNatClampNeg = (.double (FP.i2d p2))) ∧ ((2 : Int32) < p0 → getH hr [] (.double (0 : UInt64)) ((2 : Int32)).toNatClampNeg = (.double (FP.i2d p3)))
def Fn2 (Z : State) (p0 : Int32) (p1 : Int32) (p2 : Int32) (p3 : Int32) (h0 : Heap) (n0 : Nat) (sQ : State) (oQ : Outcome) (UQ : State) : Prop := ∃ vQ LQ, oQ = .returned vQ ∧ Q2 Z p0 p1 p2 p3 h0 n0 vQ UQ.heap LQ ∧ FrameEnd sQ oQ UQ LQ ({ frames := 0, cells := 1, slots := 3, locals := 0 } : Room).cells ({ frames := 0, cells := 1, slots := 3, locals := 0 } : Room).slots
set_option maxRecDepth 65536 in
set_option maxHeartbeats 40000000 in
theorem rm2 (l : Launch) (Z : State) (aZ : Array Value) (hw : ∀ d ∈ tables_1, d.before aZ Z = true) (ws : List Jvm.Cond) (p0 : Int32) (p1 : Int32) (p2 : Int32) (p3 : Int32) (h0 : Heap) (n0 : Nat) (Z0 : n0 ≤ h0.size) (hp : p0 = (1 : Int32) ∨ p0 = (2 : Int32) ∨ p0 = (3 : Int32)) :
    MetFree l (⟨"com/example/deseason/deseason/arima/PolynomialsMultiplyPinLaw", "make", "(IIII)[D"⟩ : MethodName) (head1 (Jvm.Cond.code (⟨"com/example/deseason/deseason/arima/PolynomialsMultiplyPinLaw", "make", "(IIII)[D"⟩ : MethodName) method_3_code 4 (some (.array .double)) :: ws) ({ frames := 0, cells := 1, slots := 3, locals := 0 } : Room)) (fun aQ UQ => aQ = #[(.int p0), (.int p1), (.int p2), (.int p3)] ∧ Z.Warmed39 UQ.vm ∧ UQ.heap = h0) (fun _ _ _ _ _ => True) (fun _ UQ oQ UR => ∃ vQ LQ, oQ = .returned vQ ∧ Q2 Z p0 p1 p2 p3 h0 n0 vQ UR.heap LQ ∧ FrameEnd UQ oQ UR LQ ({ frames := 0, cells := 1, slots := 3, locals := 0 } : Room).cells ({ frames := 0, cells := 1, slots := 3, locals := 0 } : Room).slots) := by
  refine MetFree.of_bodySF (plainFor_of_name pn_0) hisR ?_
  intro p e s m args below meth c s₁ Bd hml0 hP hK
  obtain ⟨rfl, hZ, hh⟩ := hP
  have hx := Bd.exec
  have hby := Bd.bytes
  have hml : c.maxLocals = 4 := hml0
  have hown : s.vm.findClass "com/example/deseason/deseason/arima/PolynomialsMultiplyPinLaw" = some m.cls := findClass_of_methodNamed Bd.named
  have hnm := (name_of_methodNamed Bd.named Bd.method).1
  have X0 : Stand p l e ({ frames := 0, cells := 1, slots := 3, locals := 0 } : Room) s m #[(.int p0), (.int p1), (.int p2), (.int p3)] below meth c s₁ [] 0 0 := Stand.of_body Bd
  have e0 : s₁.heap = h0 := by rw [← hh, Bd.state]; rfl
  have N0 := Fr.nil n0
  have K0 : Keep h0 h0 [] := Keep.refl _ _
  have w_7 := hw _ (List.mem_of_getElem? (i := 7) rfl)
  have first_ : Rn p e below (s₁.setTop (mkF m 0 #[.val (.int p0), .val (.int p1), .val (.int p2), .val (.int p3)] [])) (Fn2 Z p0 p1 p2 p3 h0 n0 s) := by
    generalize hG : (Fn2 Z p0 p1 p2 p3 h0 n0 s) = G
    refine R.iloadN X0 hx (hb hby d2_0) rfl (pc' := 1) rfl ?_
    refine R.iconst X0 hx (hb hby d2_1) (v := (1 : Int32)) (by decide) (pc' := 2) rfl ?_
    by_cases hc2 : p0 = (1 : Int32)
    · refine R.icmpNo X0 hx (hb hby d2_2) (teq hc2).2 (pc' := 5) rfl ?_
      refine R.iconst X0 hx (hb hby d2_5) (v := (1 : Int32)) (by decide) (pc' := 6) rfl ?_
      refine R.newP X0 hx hZ (ty := .double) rfl w_7 e0 (by decide) (cap := 1) (by decide) (by decide) (ad := "[D") (by decide) (hb hby d2_6) (pc' := 8) rfl (by decide) (by decide) ?_; intro T1 h1 b1 k1 g1 X1 e1 E1 EE1 AA1
      have g_b1 : n0 ≤ b1 := Nat.le_trans Z0 (Nat.le_of_eq g1.symm)
      have sz_b1 : h0.size ≤ b1 := Nat.le_trans K0.1 (Nat.le_of_eq g1.symm)
      have K1 : Keep h0 h1 [] := K0.ext E1
      have Z1 : n0 ≤ h1.size := Nat.le_trans Z0 E1.1
      have V_b1 : Arh Z h1 b1 k1 .double (1 : Int32) [] [] (.double (0 : UInt64)) := AA1
      refine R.dup X1 hx (hb hby d2_8) rfl (pc' := 9) rfl ?_
      refine R.iconst X1 hx (hb hby d2_9) (v := (0 : Int32)) (by decide) (pc' := 10) rfl ?_
      refine R.iloadN X1 hx (hb hby d2_10) rfl (pc' := 11) rfl ?_
      refine R.i2d X1 hx (hb hby d2_11) (pc' := 12) rfl ?_
      refine R.dastore X1 hx hZ e1 V_b1 (⟨by decide, by decide⟩ : ¬ (0 : Int32) < 0 ∧ (0 : Int32) < (1 : Int32)) (hb hby d2_12) (pc' := 13) rfl ?_; intro T2 h2 X2 e2 W2 V2
      have V_b1 : Arh Z h2 b1 k1 .double (1 : Int32) [((0 : Int32), (.double (FP.i2d p1)))] [] (.double (0 : UInt64)) := V2
      have N2 := Fr.snoc X2 N0 g_b1
      have K2 : Keep h0 h2 [] := K1.wr W2 (Or.inr sz_b1)
      have Z2 : n0 ≤ h2.size := Nat.le_trans Z1 (Keep.of_wr W2).1
      rw [← hG]
      exact Rn.ret X2 (BodyLoose.notSynchronized Bd) (v := some (.ref b1)) (fun h => by rw [Bd.returns] at h; cases h) (Q := Q2 Z p0 p1 p2 p3 h0 n0) e2 (fun fs hr => retOut X2 hx (t := (.array .double)) Bd.returns rfl (Or.inr (Or.inr (Or.inr (Or.inr ⟨rfl, rfl, rfl⟩)))) (hb hby d2_13) hr) ⟨b1, k1, [((0 : Int32), (.double (FP.i2d p1)))], rfl, N2, K2, sz_b1, (by rw [(hc2 : p0 = (1 : Int32))]; exact V_b1), (getH_hit (by decide) (rfl)), (fun q => absurd q (by rw [(hc2 : p0 = (1 : Int32))]; decide)), (fun q => absurd q (by rw [(hc2 : p0 = (1 : Int32))]; decide))⟩ (by decide) (by decide)
    · refine R.icmpYes X0 hx (hb hby d2_2) (feq hc2).2 (by decide) (pc' := 14) (by decide) ?_
      refine R.iloadN X0 hx (hb hby d2_14) rfl (pc' := 15) rfl ?_
      refine R.iconst X0 hx (hb hby d2_15) (v := (2 : Int32)) (by decide) (pc' := 16) rfl ?_
      by_cases hc16 : p0 = (2 : Int32)
      · refine R.icmpNo X0 hx (hb hby d2_16) (teq hc16).2 (pc' := 19) rfl ?_
        refine R.iconst X0 hx (hb hby d2_19) (v := (2 : Int32)) (by decide) (pc' := 20) rfl ?_
        refine R.newP X0 hx hZ (ty := .double) rfl w_7 e0 (by decide) (cap := 2) (by decide) (by decide) (ad := "[D") (by decide) (hb hby d2_20) (pc' := 22) rfl (by decide) (by decide) ?_; intro T3 h3 b3 k3 g3 X3 e3 E3 EE3 AA3
        have g_b3 : n0 ≤ b3 := Nat.le_trans Z0 (Nat.le_of_eq g3.symm)
        have sz_b3 : h0.size ≤ b3 := Nat.le_trans K0.1 (Nat.le_of_eq g3.symm)
        have K3 : Keep h0 h3 [] := K0.ext E3
        have Z3 : n0 ≤ h3.size := Nat.le_trans Z0 E3.1
        have V_b3 : Arh Z h3 b3 k3 .double (2 : Int32) [] [] (.double (0 : UInt64)) := AA3
        refine R.dup X3 hx (hb hby d2_22) rfl (pc' := 23) rfl ?_
        refine R.iconst X3 hx (hb hby d2_23) (v := (0 : Int32)) (by decide) (pc' := 24) rfl ?_
        refine R.iloadN X3 hx (hb hby d2_24) rfl (pc' := 25) rfl ?_
        refine R.i2d X3 hx (hb hby d2_25) (pc' := 26) rfl ?_
        refine R.dastore X3 hx hZ e3 V_b3 (⟨by decide, by decide⟩ : ¬ (0 : Int32) < 0 ∧ (0 : Int32) < (2 : Int32)) (hb hby d2_26) (pc' := 27) rfl ?_; intro T4 h4 X4 e4 W4 V4
        have V_b3 : Arh Z h4 b3 k3 .double (2 : Int32) [((0 : Int32), (.double (FP.i2d p1)))] [] (.double (0 : UInt64)) := V4
        have N4 := Fr.snoc X4 N0 g_b3
        have K4 : Keep h0 h4 [] := K3.wr W4 (Or.inr sz_b3)
        have Z4 : n0 ≤ h4.size := Nat.le_trans Z3 (Keep.of_wr W4).1
        refine R.dup X4 hx (hb hby d2_27) rfl (pc' := 28) rfl ?_
        refine R.iconst X4 hx (hb hby d2_28) (v := (1 : Int32)) (by decide) (pc' := 29) rfl ?_
        refine R.iloadN X4 hx (hb hby d2_29) rfl (pc' := 30) rfl ?_
        refine R.i2d X4 hx (hb hby d2_30) (pc' := 31) rfl ?_
        refine R.dastore X4 hx hZ e4 V_b3 (⟨by decide, by decide⟩ : ¬ (1 : Int32) < 0 ∧ (1 : Int32) < (2 : Int32)) (hb hby d2_31) (pc' := 32) rfl ?_; intro T5 h5 X5 e5 W5 V5
        have V_b3 : Arh Z h5 b3 k3 .double (2 : Int32) [((1 : Int32), (.double (FP.i2d p2))), ((0 : Int32), (.double (FP.i2d p1)))] [] (.double (0 : UInt64)) := V5
        have N5 := Fr.snoc X5 N4 g_b3
        have K5 : Keep h0 h5 [] := K4.wr W5 (Or.inr sz_b3)
        have Z5 : n0 ≤ h5.size := Nat.le_trans Z4 (Keep.of_wr W5).1
        rw [← hG]
        exact Rn.ret X5 (BodyLoose.notSynchronized Bd) (v := some (.ref b3)) (fun h => by rw [Bd.returns] at h; cases h) (Q := Q2 Z p0 p1 p2 p3 h0 n0) e5 (fun fs hr => retOut X5 hx (t := (.array .double)) Bd.returns rfl (Or.inr (Or.inr (Or.inr (Or.inr ⟨rfl, rfl, rfl⟩)))) (hb hby d2_32) hr) ⟨b3, k3, [((1 : Int32), (.double (FP.i2d p2))), ((0 : Int32), (.double (FP.i2d p1)))], rfl, N5, K5, sz_b3, (by rw [(hc16 : p0 = (2 : Int32))]; exact V_b3), (getH_miss (by decide) (by decide) (getH_hit (by decide) (rfl))), (fun _ => getH_hit (by decide) (rfl)), (fun q => absurd q (by rw [(hc16 : p0 = (2 : Int32))]; decide))⟩ (by decide) (by decide)
      · refine R.icmpYes X0 hx (hb hby d2_16) (feq hc16).2 (by decide) (pc' := 33) (by decide) ?_
        refine R.iconst X0 hx (hb hby d2_33) (v := (3 : Int32)) (by decide) (pc' := 34) rfl ?_
        refine R.newP X0 hx hZ (ty := .double) rfl w_7 e0 (by decide) (cap := 3) (by decide) (by decide) (ad := "[D") (by decide) (hb hby d2_34) (pc' := 36) rfl (by decide) (by decide) ?_; intro T6 h6 b6 k6 g6 X6 e6 E6 EE6 AA6
        have g_b6 : n0 ≤ b6 := Nat.le_trans Z0 (Nat.le_of_eq g6.symm)
        have sz_b6 : h0.size ≤ b6 := Nat.le_trans K0.1 (Nat.le_of_eq g6.symm)
        have K6 : Keep h0 h6 [] := K0.ext E6
        have Z6 : n0 ≤ h6.size := Nat.le_trans Z0 E6.1
        have V_b6 : Arh Z h6 b6 k6 .double (3 : Int32) [] [] (.double (0 : UInt64)) := AA6
        refine R.dup X6 hx (hb hby d2_36) rfl (pc' := 37) rfl ?_
        refine R.iconst X6 hx (hb hby d2_37) (v := (0 : Int32)) (by decide) (pc' := 38) rfl ?_
        refine R.iloadN X6 hx (hb hby d2_38) rfl (pc' := 39) rfl ?_
        refine R.i2d X6 hx (hb hby d2_39) (pc' := 40) rfl ?_
        refine R.dastore X6 hx hZ e6 V_b6 (⟨by decide, by decide⟩ : ¬ (0 : Int32) < 0 ∧ (0 : Int32) < (3 : Int32)) (hb hby d2_40) (pc' := 41) rfl ?_; intro T7 h7 X7 e7 W7 V7
        have V_b6 : Arh Z h7 b6 k6 .double (3 : Int32) [((0 : Int32), (.double (FP.i2d p1)))] [] (.double (0 : UInt64)) := V7
        have N7 := Fr.snoc X7 N0 g_b6
        have K7 : Keep h0 h7 [] := K6.wr W7 (Or.inr sz_b6)
        have Z7 : n0 ≤ h7.size := Nat.le_trans Z6 (Keep.of_wr W7).1
        refine R.dup X7 hx (hb hby d2_41) rfl (pc' := 42) rfl ?_
        refine R.iconst X7 hx (hb hby d2_42) (v := (1 : Int32)) (by decide) (pc' := 43) rfl ?_
        refine R.iloadN X7 hx (hb hby d2_43) rfl (pc' := 44) rfl ?_
        refine R.i2d X7 hx (hb hby d2_44) (pc' := 45) rfl ?_
        refine R.dastore X7 hx hZ e7 V_b6 (⟨by decide, by decide⟩ : ¬ (1 : Int32) < 0 ∧ (1 : Int32) < (3 : Int32)) (hb hby d2_45) (pc' := 46) rfl ?_; intro T8 h8 X8 e8 W8 V8
        have V_b6 : Arh Z h8 b6 k6 .double (3 : Int32) [((1 : Int32), (.double (FP.i2d p2))), ((0 : Int32), (.double (FP.i2d p1)))] [] (.double (0 : UInt64)) := V8
        have N8 := Fr.snoc X8 N7 g_b6
        have K8 : Keep h0 h8 [] := K7.wr W8 (Or.inr sz_b6)
        have Z8 : n0 ≤ h8.size := Nat.le_trans Z7 (Keep.of_wr W8).1
        refine R.dup X8 hx (hb hby d2_46) rfl (pc' := 47) rfl ?_
        refine R.iconst X8 hx (hb hby d2_47) (v := (2 : Int32)) (by decide) (pc' := 48) rfl ?_
        refine R.iloadN X8 hx (hb hby d2_48) rfl (pc' := 49) rfl ?_
        refine R.i2d X8 hx (hb hby d2_49) (pc' := 50) rfl ?_
        refine R.dastore X8 hx hZ e8 V_b6 (⟨by decide, by decide⟩ : ¬ (2 : Int32) < 0 ∧ (2 : Int32) < (3 : Int32)) (hb hby d2_50) (pc' := 51) rfl ?_; intro T9 h9 X9 e9 W9 V9
        have V_b6 : Arh Z h9 b6 k6 .double (3 : Int32) [((2 : Int32), (.double (FP.i2d p3))), ((1 : Int32), (.double (FP.i2d p2))), ((0 : Int32), (.double (FP.i2d p1)))] [] (.double (0 : UInt64)) := V9
        have N9 := Fr.snoc X9 N8 g_b6
        have K9 : Keep h0 h9 [] := K8.wr W9 (Or.inr sz_b6)
        have Z9 : n0 ≤ h9.size := Nat.le_trans Z8 (Keep.of_wr W9).1
        rw [← hG]
        exact Rn.ret X9 (BodyLoose.notSynchronized Bd) (v := some (.ref b6)) (fun h => by rw [Bd.returns] at h; cases h) (Q := Q2 Z p0 p1 p2 p3 h0 n0) e9 (fun fs hr => retOut X9 hx (t := (.array .double)) Bd.returns rfl (Or.inr (Or.inr (Or.inr (Or.inr ⟨rfl, rfl, rfl⟩)))) (hb hby d2_51) hr) ⟨b6, k6, [((2 : Int32), (.double (FP.i2d p3))), ((1 : Int32), (.double (FP.i2d p2))), ((0 : Int32), (.double (FP.i2d p1)))], rfl, N9, K9, sz_b6, (by rw [(own_three hp hc2 hc16 : p0 = (3 : Int32))]; exact V_b6), (getH_miss (by decide) (by decide) (getH_miss (by decide) (by decide) (getH_hit (by decide) (rfl)))), (fun _ => getH_miss (by decide) (by decide) (getH_hit (by decide) (rfl))), (fun _ => getH_hit (by decide) (rfl))⟩ (by decide) (by decide)
  exact (Rn.st (fun t k => castTop (ef_2 m p0 p1 p2 p3) k) first_ : Rn p e below (s₁.setTop (entryFrame m #[(.int p0), (.int p1), (.int p2), (.int p3)] 4)) (Fn2 Z p0 p1 p2 p3 h0 n0 s))
theorem d3_0 : decode prog_10_method_3_code 0 = .ok (.aload_n 0, 1) := by decide +kernel
theorem d3_1 : decode prog_10_method_3_code 1 = .ok (.arraylength, 1) := by decide +kernel
theorem d3_2 : decode prog_10_method_3_code 2 = .ok (.aload_n 1, 1) := by decide +kernel
theorem d3_3 : decode prog_10_method_3_code 3 = .ok (.arraylength, 1) := by decide +kernel
theorem d3_4 : decode prog_10_method_3_code 4 = .ok (.iadd, 1) := by decide +kernel
theorem d3_5 : decode prog_10_method_3_code 5 = .ok (.iconst 1, 1) := by decide +kernel
theorem d3_6 : decode prog_10_method_3_code 6 = .ok (.isub, 1) := by decide +kernel
theorem d3_7 : decode prog_10_method_3_code 7 = .ok (.newarray .double, 2) := by decide +kernel
theorem d3_9 : decode prog_10_method_3_code 9 = .ok (.astore_n 2, 1) := by decide +kernel
theorem d3_10 : decode prog_10_method_3_code 10 = .ok (.iconst 0, 1) := by decide +kernel
theorem d3_11 : decode prog_10_method_3_code 11 = .ok (.istore_n 3, 1) := by decide +kernel
theorem d3_12 : decode prog_10_method_3_code 12 = .ok (.iload_n 3, 1) := by decide +kernel
theorem d3_13 : decode prog_10_method_3_code 13 = .ok (.aload_n 0, 1) := by decide +kernel
theorem d3_14 : decode prog_10_method_3_code 14 = .ok (.arraylength, 1) := by decide +kernel
theorem d3_15 : decode prog_10_method_3_code 15 = .ok (.if_icmp .ge 42, 3) := by decide +kernel
theorem d3_18 : decode prog_10_method_3_code 18 = .ok (.iconst 0, 1) := by decide +kernel
theorem d3_19 : decode prog_10_method_3_code 19 = .ok (.istore 4, 2) := by decide +kernel
theorem d3_21 : decode prog_10_method_3_code 21 = .ok (.iload 4, 2) := by decide +kernel
theorem d3_23 : decode prog_10_method_3_code 23 = .ok (.aload_n 1, 1) := by decide +kernel
theorem d3_24 : decode prog_10_method_3_code 24 = .ok (.arraylength, 1) := by decide +kernel
theorem d3_25 : decode prog_10_method_3_code 25 = .ok (.if_icmp .ge 26, 3) := by decide +kernel
theorem d3_28 : decode prog_10_method_3_code 28 = .ok (.aload_n 2, 1) := by decide +kernel
theorem d3_29 : decode prog_10_method_3_code 29 = .ok (.iload_n 3, 1) := by decide +kernel
theorem d3_30 : decode prog_10_method_3_code 30 = .ok (.iload 4, 2) := by decide +kernel
theorem d3_32 : decode prog_10_method_3_code 32 = .ok (.iadd, 1) := by decide +kernel
theorem d3_33 : decode prog_10_method_3_code 33 = .ok (.dup2, 1) := by decide +kernel
theorem d3_34 : decode prog_10_method_3_code 34 = .ok (.daload, 1) := by decide +kernel
theorem d3_35 : decode prog_10_method_3_code 35 = .ok (.aload_n 0, 1) := by decide +kernel
theorem d3_36 : decode prog_10_method_3_code 36 = .ok (.iload_n 3, 1) := by decide +kernel
theorem d3_37 : decode prog_10_method_3_code 37 = .ok (.daload, 1) := by decide +kernel
theorem d3_38 : decode prog_10_method_3_code 38 = .ok (.aload_n 1, 1) := by decide +kernel
theorem d3_39 : decode prog_10_method_3_code 39 = .ok (.iload 4, 2) := by decide +kernel
theorem d3_41 : decode prog_10_method_3_code 41 = .ok (.daload, 1) := by decide +kernel
theorem d3_42 : decode prog_10_method_3_code 42 = .ok (.dmul, 1) := by decide +kernel
theorem d3_43 : decode prog_10_method_3_code 43 = .ok (.dadd, 1) := by decide +kernel
theorem d3_44 : decode prog_10_method_3_code 44 = .ok (.dastore, 1) := by decide +kernel
theorem d3_45 : decode prog_10_method_3_code 45 = .ok (.iinc 4 1, 3) := by decide +kernel
theorem d3_48 : decode prog_10_method_3_code 48 = .ok (.goto (-27), 3) := by decide +kernel
theorem d3_51 : decode prog_10_method_3_code 51 = .ok (.iinc 3 1, 3) := by decide +kernel
theorem d3_54 : decode prog_10_method_3_code 54 = .ok (.goto (-42), 3) := by decide +kernel
theorem d3_57 : decode prog_10_method_3_code 57 = .ok (.aload_n 2, 1) := by decide +kernel
theorem d3_58 : decode prog_10_method_3_code 58 = .ok (.areturn, 1) := by decide +kernel
theorem pn_1 : plainName "com/example/deseason/deseason/arima/Polynomials" = true := by first | (simp [plainName, overriddenIn]; done) | decide +kernel
theorem ef_3 (m : MethodId) (x0 : Addr) (x1 : Addr) : entryFrame m #[(.ref x0), (.ref x1)] 5 = mkF m 0 #[.val (.ref x0), .val (.ref x1), .unset, .unset, .unset] [] := by first | (simp [entryFrame, mkF, argsToLocals, Value.category]; done) | rfl
def Q3 (Z : State) (a0 : Addr) (a1 : Addr) (ka : ClassId) (kb : ClassId) (la : Int32) (lb : Int32) (ha : List (Int32 × Value)) (hbb : List (Int32 × Value)) (x0 : UInt64) (x1 : UInt64) (x2 : UInt64) (y0 : UInt64) (y1 : UInt64) (y2 : UInt64) (A0 : Int) (A1 : Int) (A2 : Int) (B0 : Int) (B1 : Int) (B2 : Int) (h0 : Heap) (n0 : Nat) (vQ : Option Value) (hQ_ : Heap) (LQ : List Loc) : Prop := ∃ r : Addr, ∃ kr : ClassId, ∃ hr : List (Int32 × Value), vQ = some (.ref r) ∧ Fr n0 LQ ∧ Keep h0 hQ_ [] ∧ (h0.size ≤ r) ∧ (Arh Z hQ_ r kr .double ((la + lb) - (1 : Int32)) hr [] (.double (0 : UInt64))) ∧ ((0 : Int32) < ((la + lb) - (1 : Int32)) → ∃ v : UInt64, getH hr [] (.double (0 : UInt64)) ((0 : Int32)).toNatClampNeg = (.double v) ∧ Dy v (A0 * B0) 0) ∧ ((1 : Int32) < ((la + lb) - (1 : Int32)) → ∃ v : UInt64, getH hr [] (.double (0 : UInt64)) ((1 : Int32)).toNatClampNeg = (.double v) ∧ Dy v (A0 * B1 + A1 * B0) 0) ∧ ((2 : Int32) < ((la + lb) - (1 : Int32)) → ∃ v : UInt64, getH hr [] (.double (0 : UInt64)) ((2 : Int32)).toNatClampNeg = (.double v) ∧ Dy v (A0 * B2 + A1 * B1 + A2 * B0) 0) ∧ ((3 : Int32) < ((la + lb) - (1 : Int32)) → ∃ v : UInt64, getH hr [] (.double (0 : UInt64)) ((3 : Int32)).toNatClampNeg = (.double v) ∧ Dy v (A1 * B2 + A2 * B1) 0) ∧ ((4 : Int32) < ((la + lb) - (1 : Int32)) → ∃ v : UInt64, getH hr [] (.double (0 : UInt64)) ((4 : Int32)).toNatClampNeg = (.double v) ∧ Dy v (A2 * B2) 0)
def Fn3 (Z : State) (a0 : Addr) (a1 : Addr) (ka : ClassId) (kb : ClassId) (la : Int32) (lb : Int32) (ha : List (Int32 × Value)) (hbb : List (Int32 × Value)) (x0 : UInt64) (x1 : UInt64) (x2 : UInt64) (y0 : UInt64) (y1 : UInt64) (y2 : UInt64) (A0 : Int) (A1 : Int) (A2 : Int) (B0 : Int) (B1 : Int) (B2 : Int) (h0 : Heap) (n0 : Nat) (sQ : State) (oQ : Outcome) (UQ : State) : Prop := ∃ vQ LQ, oQ = .returned vQ ∧ Q3 Z a0 a1 ka kb la lb ha hbb x0 x1 x2 y0 y1 y2 A0 A1 A2 B0 B1 B2 h0 n0 vQ UQ.heap LQ ∧ FrameEnd sQ oQ UQ LQ ({ frames := 0, cells := 1, slots := 5, locals := 0 } : Room).cells ({ frames := 0, cells := 1, slots := 5, locals := 0 } : Room).slots
set_option maxRecDepth 65536 in
set_option maxHeartbeats 40000000 in
theorem rm3 (l : Launch) (Z : State) (aZ : Array Value) (hw : ∀ d ∈ tables_1, d.before aZ Z = true) (ws : List Jvm.Cond) (a0 : Addr) (a1 : Addr) (ka : ClassId) (kb : ClassId) (la : Int32) (lb : Int32) (ha : List (Int32 × Value)) (hbb : List (Int32 × Value)) (x0 : UInt64) (x1 : UInt64) (x2 : UInt64) (y0 : UInt64) (y1 : UInt64) (y2 : UInt64) (A0 : Int) (A1 : Int) (A2 : Int) (B0 : Int) (B1 : Int) (B2 : Int) (h0 : Heap) (n0 : Nat) (Z0 : n0 ≤ h0.size) (V_a0 : Arh Z h0 a0 ka .double la ha [] (.double (0 : UInt64))) (hl_a0 : la = (1 : Int32) ∨ la = (2 : Int32) ∨ la = (3 : Int32)) (r0_a0 : getH ha [] (.double (0 : UInt64)) ((0 : Int32)).toNatClampNeg = (.double x0)) (r1_a0 : (1 : Int32) < la → getH ha [] (.double (0 : UInt64)) ((1 : Int32)).toNatClampNeg = (.double x1)) (r2_a0 : (2 : Int32) < la → getH ha [] (.double (0 : UInt64)) ((2 : Int32)).toNatClampNeg = (.double x2)) (D0_a0 : Dy x0 A0 0) (D1_a0 : (1 : Int32) < la → Dy x1 A1 0) (D2_a0 : (2 : Int32) < la → Dy x2 A2 0) (z1_a0 : ¬ (1 : Int32) < la → A1 = 0) (z2_a0 : ¬ (2 : Int32) < la → A2 = 0) (b0_a0 : own_ab A0 1048576) (b1_a0 : own_ab A1 1048576) (b2_a0 : own_ab A2 1048576) (V_a1 : Arh Z h0 a1 kb .double lb hbb [] (.double (0 : UInt64))) (hl_a1 : lb = (1 : Int32) ∨ lb = (2 : Int32) ∨ lb = (3 : Int32)) (r0_a1 : getH hbb [] (.double (0 : UInt64)) ((0 : Int32)).toNatClampNeg = (.double y0)) (r1_a1 : (1 : Int32) < lb → getH hbb [] (.double (0 : UInt64)) ((1 : Int32)).toNatClampNeg = (.double y1)) (r2_a1 : (2 : Int32) < lb → getH hbb [] (.double (0 : UInt64)) ((2 : Int32)).toNatClampNeg = (.double y2)) (D0_a1 : Dy y0 B0 0) (D1_a1 : (1 : Int32) < lb → Dy y1 B1 0) (D2_a1 : (2 : Int32) < lb → Dy y2 B2 0) (z1_a1 : ¬ (1 : Int32) < lb → B1 = 0) (z2_a1 : ¬ (2 : Int32) < lb → B2 = 0) (b0_a1 : own_ab B0 1048576) (b1_a1 : own_ab B1 1048576) (b2_a1 : own_ab B2 1048576) :
    MetFree l (⟨"com/example/deseason/deseason/arima/Polynomials", "multiply", "([D[D)[D"⟩ : MethodName) (head1 (Jvm.Cond.code (⟨"com/example/deseason/deseason/arima/Polynomials", "multiply", "([D[D)[D"⟩ : MethodName) prog_10_method_3_code 5 (some (.array .double)) :: ws) ({ frames := 0, cells := 1, slots := 5, locals := 0 } : Room)) (fun aQ UQ => aQ = #[(.ref a0), (.ref a1)] ∧ Z.Warmed39 UQ.vm ∧ UQ.heap = h0) (fun _ _ _ _ _ => True) (fun _ UQ oQ UR => ∃ vQ LQ, oQ = .returned vQ ∧ Q3 Z a0 a1 ka kb la lb ha hbb x0 x1 x2 y0 y1 y2 A0 A1 A2 B0 B1 B2 h0 n0 vQ UR.heap LQ ∧ FrameEnd UQ oQ UR LQ ({ frames := 0, cells := 1, slots := 5, locals := 0 } : Room).cells ({ frames := 0, cells := 1, slots := 5, locals := 0 } : Room).slots) := by
  refine MetFree.of_bodySF (plainFor_of_name pn_1) hisR ?_
  intro p e s m args below meth c s₁ Bd hml0 hP hK
  obtain ⟨rfl, hZ, hh⟩ := hP
  have hx := Bd.exec
  have hby := Bd.bytes
  have hml : c.maxLocals = 5 := hml0
  have hown : s.vm.findClass "com/example/deseason/deseason/arima/Polynomials" = some m.cls := findClass_of_methodNamed Bd.named
  have hnm := (name_of_methodNamed Bd.named Bd.method).1
  have X0 : Stand p l e ({ frames := 0, cells := 1, slots := 5, locals := 0 } : Room) s m #[(.ref a0), (.ref a1)] below meth c s₁ [] 0 0 := Stand.of_body Bd
  have e0 : s₁.heap = h0 := by rw [← hh, Bd.state]; rfl
  have N0 := Fr.nil n0
  have K0 : Keep h0 h0 [] := Keep.refl _ _
  have w_7 := hw _ (List.mem_of_getElem? (i := 7) rfl)
  have first_ : Rn p e below (s₁.setTop (mkF m 0 #[.val (.ref a0), .val (.ref a1), .unset, .unset, .unset] [])) (Fn3 Z a0 a1 ka kb la lb ha hbb x0 x1 x2 y0 y1 y2 A0 A1 A2 B0 B1 B2 h0 n0 s) := by
    generalize hG : (Fn3 Z a0 a1 ka kb la lb ha hbb x0 x1 x2 y0 y1 y2 A0 A1 A2 B0 B1 B2 h0 n0 s) = G
    rcases hl_a0 with rfl | rfl | rfl
    · rcases hl_a1 with rfl | rfl | rfl
      · refine R.aloadN X0 hx (hb hby d3_0) rfl rfl (pc' := 1) rfl ?_
        refine R.alen X0 hx hZ e0 V_a0 (hb hby d3_1) (pc' := 2) rfl ?_
        refine R.aloadN X0 hx (hb hby d3_2) rfl rfl (pc' := 3) rfl ?_
        refine R.alen X0 hx hZ e0 V_a1 (hb hby d3_3) (pc' := 4) rfl ?_
        refine R.iadd X0 hx (hb hby d3_4) (v := (2 : Int32)) (by decide) (pc' := 5) rfl ?_
        refine R.iconst X0 hx (hb hby d3_5) (v := (1 : Int32)) (by decide) (pc' := 6) rfl ?_
        refine R.isub X0 hx (hb hby d3_6) (v := (1 : Int32)) (by decide) (pc' := 7) rfl ?_
        refine R.newP X0 hx hZ (ty := .double) rfl w_7 e0 (by decide) (cap := 1) (by decide) (by decide) (ad := "[D") (by decide) (hb hby d3_7) (pc' := 9) rfl (by decide) (by decide) ?_; intro T1 h1 b1 k1 g1 X1 e1 E1 EE1 AA1
        have g_b1 : n0 ≤ b1 := Nat.le_trans Z0 (Nat.le_of_eq g1.symm)
        have sz_b1 : h0.size ≤ b1 := Nat.le_trans K0.1 (Nat.le_of_eq g1.symm)
        have ne_a0_b1 : a0 ≠ b1 := Nat.ne_of_lt (Nat.lt_of_lt_of_le V_a0.lt (Nat.le_of_eq g1.symm))
        have ne_a1_b1 : a1 ≠ b1 := Nat.ne_of_lt (Nat.lt_of_lt_of_le V_a1.lt (Nat.le_of_eq g1.symm))
        have K1 : Keep h0 h1 [] := K0.ext E1
        have Z1 : n0 ≤ h1.size := Nat.le_trans Z0 E1.1
        have V_a0 := V_a0.ext E1
        have V_a1 := V_a1.ext E1
        have V_b1 : Arh Z h1 b1 k1 .double (1 : Int32) [] [] (.double (0 : UInt64)) := AA1
        refine R.astoreN X1 hx (hb hby d3_9) rfl (L' := #[.val (.ref a0), .val (.ref a1), .val (.ref b1), .unset, .unset]) rfl (pc' := 10) rfl ?_
        refine R.iconst X1 hx (hb hby d3_10) (v := (0 : Int32)) (by decide) (pc' := 11) rfl ?_
        refine R.istoreN X1 hx (hb hby d3_11) (L' := #[.val (.ref a0), .val (.ref a1), .val (.ref b1), .val (.int (0 : Int32)), .unset]) rfl (pc' := 12) rfl ?_
        refine R.iloadN X1 hx (hb hby d3_12) rfl (pc' := 13) rfl ?_
        refine R.aloadN X1 hx (hb hby d3_13) rfl rfl (pc' := 14) rfl ?_
        refine R.alen X1 hx hZ e1 V_a0 (hb hby d3_14) (pc' := 15) rfl ?_
        refine R.icmpNo X1 hx (hb hby d3_15) (tlt (by decide : (0 : Int32) < (1 : Int32))).2.1 (pc' := 18) rfl ?_
        refine R.iconst X1 hx (hb hby d3_18) (v := (0 : Int32)) (by decide) (pc' := 19) rfl ?_
        refine R.istore X1 hx (hb hby d3_19) (L' := #[.val (.ref a0), .val (.ref a1), .val (.ref b1), .val (.int (0 : Int32)), .val (.int (0 : Int32))]) rfl (pc' := 21) rfl ?_
        refine R.iload X1 hx (hb hby d3_21) rfl (pc' := 23) rfl ?_
        refine R.aloadN X1 hx (hb hby d3_23) rfl rfl (pc' := 24) rfl ?_
        refine R.alen X1 hx hZ e1 V_a1 (hb hby d3_24) (pc' := 25) rfl ?_
        refine R.icmpNo X1 hx (hb hby d3_25) (tlt (by decide : (0 : Int32) < (1 : Int32))).2.1 (pc' := 28) rfl ?_
        refine R.aloadN X1 hx (hb hby d3_28) rfl rfl (pc' := 29) rfl ?_
        refine R.iloadN X1 hx (hb hby d3_29) rfl (pc' := 30) rfl ?_
        refine R.iload X1 hx (hb hby d3_30) rfl (pc' := 32) rfl ?_
        refine R.iadd X1 hx (hb hby d3_32) (v := (0 : Int32)) (by decide) (pc' := 33) rfl ?_
        refine R.dup2 X1 hx (hb hby d3_33) rfl rfl (pc' := 34) rfl ?_
        refine R.daload X1 hx hZ e1 V_b1 (⟨by decide, by decide⟩ : ¬ (0 : Int32) < 0 ∧ (0 : Int32) < (1 : Int32)) (v := (.double (0 : UInt64))) (own_getH_nil _ _) (hb hby d3_34) (pc' := 35) rfl ?_
        refine R.aloadN X1 hx (hb hby d3_35) rfl rfl (pc' := 36) rfl ?_
        refine R.iloadN X1 hx (hb hby d3_36) rfl (pc' := 37) rfl ?_
        refine R.daload X1 hx hZ e1 V_a0 (⟨by decide, by decide⟩ : ¬ (0 : Int32) < 0 ∧ (0 : Int32) < (1 : Int32)) (v := (.double x0)) (r0_a0) (hb hby d3_37) (pc' := 38) rfl ?_
        refine R.aloadN X1 hx (hb hby d3_38) rfl rfl (pc' := 39) rfl ?_
        refine R.iload X1 hx (hb hby d3_39) rfl (pc' := 41) rfl ?_
        refine R.daload X1 hx hZ e1 V_a1 (⟨by decide, by decide⟩ : ¬ (0 : Int32) < 0 ∧ (0 : Int32) < (1 : Int32)) (v := (.double y0)) (r0_a1) (hb hby d3_41) (pc' := 42) rfl ?_
        refine R.dmul X1 hx (hb hby d3_42) ((Dy.mul (D0_a0) (D0_a1) ((own_ab.mul b0_a0 b0_a1).lt (by decide)) (by decide)).nn : NoNaN64 (FP.dmul x0 y0)) (pc' := 43) rfl ?_
        refine R.dadd X1 hx (hb hby d3_43) ((Dy.add own_zero (Dy.mul (D0_a0) (D0_a1) ((own_ab.mul b0_a0 b0_a1).lt (by decide)) (by decide)) ((own_ab.add own_ab0 (own_ab.mul b0_a0 b0_a1)).lt (by decide)) (by decide)).nn : NoNaN64 (FP.dadd (0 : UInt64) (FP.dmul x0 y0))) (pc' := 44) rfl ?_
        refine R.dastore X1 hx hZ e1 V_b1 (⟨by decide, by decide⟩ : ¬ (0 : Int32) < 0 ∧ (0 : Int32) < (1 : Int32)) (hb hby d3_44) (pc' := 45) rfl ?_; intro T2 h2 X2 e2 W2 V2
        have V_a0 := V_a0.other W2 ne_a0_b1
        have V_a1 := V_a1.other W2 ne_a1_b1
        have V_b1 : Arh Z h2 b1 k1 .double (1 : Int32) [((0 : Int32), (.double (FP.dadd (0 : UInt64) (FP.dmul x0 y0))))] [] (.double (0 : UInt64)) := V2
        have N2 := Fr.snoc X2 N0 g_b1
        have K2 : Keep h0 h2 [] := K1.wr W2 (Or.inr sz_b1)
        have Z2 : n0 ≤ h2.size := Nat.le_trans Z1 (Keep.of_wr W2).1
        refine R.iinc X2 hx (hb hby d3_45) rfl (L' := #[.val (.ref a0), .val (.ref a1), .val (.ref b1), .val (.int (0 : Int32)), .val (.int (1 : Int32))]) rfl (pc' := 48) rfl ?_
        refine R.goto X2 hx (hb hby d3_48) (by decide) (pc' := 21) (by decide) ?_
        refine R.iload X2 hx (hb hby d3_21) rfl (pc' := 23) rfl ?_
        refine R.aloadN X2 hx (hb hby d3_23) rfl rfl (pc' := 24) rfl ?_
        refine R.alen X2 hx hZ e2 V_a1 (hb hby d3_24) (pc' := 25) rfl ?_
        refine R.icmpYes X2 hx (hb hby d3_25) (flt (by decide : ¬ ((1 : Int32) < (1 : Int32)))).2.1 (by decide) (pc' := 51) (by decide) ?_
        refine R.iinc X2 hx (hb hby d3_51) rfl (L' := #[.val (.ref a0), .val (.ref a1), .val (.ref b1), .val (.int (1 : Int32)), .val (.int (1 : Int32))]) rfl (pc' := 54) rfl ?_
        refine R.goto X2 hx (hb hby d3_54) (by decide) (pc' := 12) (by decide) ?_
        refine R.iloadN X2 hx (hb hby d3_12) rfl (pc' := 13) rfl ?_
        refine R.aloadN X2 hx (hb hby d3_13) rfl rfl (pc' := 14) rfl ?_
        refine R.alen X2 hx hZ e2 V_a0 (hb hby d3_14) (pc' := 15) rfl ?_
        refine R.icmpYes X2 hx (hb hby d3_15) (flt (by decide : ¬ ((1 : Int32) < (1 : Int32)))).2.1 (by decide) (pc' := 57) (by decide) ?_
        refine R.aloadN X2 hx (hb hby d3_57) rfl rfl (pc' := 58) rfl ?_
        rw [← hG]
        exact Rn.ret X2 (BodyLoose.notSynchronized Bd) (v := some (.ref b1)) (fun h => by rw [Bd.returns] at h; cases h) (Q := Q3 Z a0 a1 ka kb (1 : Int32) (1 : Int32) ha hbb x0 x1 x2 y0 y1 y2 A0 A1 A2 B0 B1 B2 h0 n0) e2 (fun fs hr => retOut X2 hx (t := (.array .double)) Bd.returns rfl (Or.inr (Or.inr (Or.inr (Or.inr ⟨rfl, rfl, rfl⟩)))) (hb hby d3_58) hr) ⟨b1, k1, [((0 : Int32), (.double (FP.dadd (0 : UInt64) (FP.dmul x0 y0))))], rfl, N2, K2, sz_b1, V_b1, (fun _ => ⟨_, getH_hit (by decide) (rfl), Dy.cast (Dy.add own_zero (Dy.mul (D0_a0) (D0_a1) ((own_ab.mul b0_a0 b0_a1).lt (by decide)) (by decide)) ((own_ab.add own_ab0 (own_ab.mul b0_a0 b0_a1)).lt (by decide)) (by decide)) (by first | omega | (simp only [z1_a0 (by decide), z2_a0 (by decide), z1_a1 (by decide), z2_a1 (by decide)]; omega)) rfl⟩), (fun q => absurd q (by decide)), (fun q => absurd q (by decide)), (fun q => absurd q (by decide)), (fun q => absurd q (by decide))⟩ (by decide) (by decide)
      · refine R.aloadN X0 hx (hb hby d3_0) rfl rfl (pc' := 1) rfl ?_
        refine R.alen X0 hx hZ e0 V_a0 (hb hby d3_1) (pc' := 2) rfl ?_
        refine R.aloadN X0 hx (hb hby d3_2) rfl rfl (pc' := 3) rfl ?_
        refine R.alen X0 hx hZ e0 V_a1 (hb hby d3_3) (pc' := 4) rfl ?_
        refine R.iadd X0 hx (hb hby d3_4) (v := (3 : Int32)) (by decide) (pc' := 5) rfl ?_
        refine R.iconst X0 hx (hb hby d3_5) (v := (1 : Int32)) (by decide) (pc' := 6) rfl ?_
        refine R.isub X0 hx (hb hby d3_6) (v := (2 : Int32)) (by decide) (pc' := 7) rfl ?_
        refine R.newP X0 hx hZ (ty := .double) rfl w_7 e0 (by decide) (cap := 2) (by decide) (by decide) (ad := "[D") (by decide) (hb hby d3_7) (pc' := 9) rfl (by decide) (by decide) ?_; intro T3 h3 b3 k3 g3 X3 e3 E3 EE3 AA3
        have g_b3 : n0 ≤ b3 := Nat.le_trans Z0 (Nat.le_of_eq g3.symm)
        have sz_b3 : h0.size ≤ b3 := Nat.le_trans K0.1 (Nat.le_of_eq g3.symm)
        have ne_a0_b3 : a0 ≠ b3 := Nat.ne_of_lt (Nat.lt_of_lt_of_le V_a0.lt (Nat.le_of_eq g3.symm))
        have ne_a1_b3 : a1 ≠ b3 := Nat.ne_of_lt (Nat.lt_of_lt_of_le V_a1.lt (Nat.le_of_eq g3.symm))
        have K3 : Keep h0 h3 [] := K0.ext E3
        have Z3 : n0 ≤ h3.size := Nat.le_trans Z0 E3.1
        have V_a0 := V_a0.ext E3
        have V_a1 := V_a1.ext E3
        have V_b3 : Arh Z h3 b3 k3 .double (2 : Int32) [] [] (.double (0 : UInt64)) := AA3
        refine R.astoreN X3 hx (hb hby d3_9) rfl (L' := #[.val (.ref a0), .val (.ref a1), .val (.ref b3), .unset, .unset]) rfl (pc' := 10) rfl ?_
        refine R.iconst X3 hx (hb hby d3_10) (v := (0 : Int32)) (by decide) (pc' := 11) rfl ?_
        refine R.istoreN X3 hx (hb hby d3_11) (L' := #[.val (.ref a0), .val (.ref a1), .val (.ref b3), .val (.int (0 : Int32)), .unset]) rfl (pc' := 12) rfl ?_
        refine R.iloadN X3 hx (hb hby d3_12) rfl (pc' := 13) rfl ?_
        refine R.aloadN X3 hx (hb hby d3_13) rfl rfl (pc' := 14) rfl ?_
        refine R.alen X3 hx hZ e3 V_a0 (hb hby d3_14) (pc' := 15) rfl ?_
        refine R.icmpNo X3 hx (hb hby d3_15) (tlt (by decide : (0 : Int32) < (1 : Int32))).2.1 (pc' := 18) rfl ?_
        refine R.iconst X3 hx (hb hby d3_18) (v := (0 : Int32)) (by decide) (pc' := 19) rfl ?_
        refine R.istore X3 hx (hb hby d3_19) (L' := #[.val (.ref a0), .val (.ref a1), .val (.ref b3), .val (.int (0 : Int32)), .val (.int (0 : Int32))]) rfl (pc' := 21) rfl ?_
        refine R.iload X3 hx (hb hby d3_21) rfl (pc' := 23) rfl ?_
        refine R.aloadN X3 hx (hb hby d3_23) rfl rfl (pc' := 24) rfl ?_
        refine R.alen X3 hx hZ e3 V_a1 (hb hby d3_24) (pc' := 25) rfl ?_
        refine R.icmpNo X3 hx (hb hby d3_25) (tlt (by decide : (0 : Int32) < (2 : Int32))).2.1 (pc' := 28) rfl ?_
        refine R.aloadN X3 hx (hb hby d3_28) rfl rfl (pc' := 29) rfl ?_
        refine R.iloadN X3 hx (hb hby d3_29) rfl (pc' := 30) rfl ?_
        refine R.iload X3 hx (hb hby d3_30) rfl (pc' := 32) rfl ?_
        refine R.iadd X3 hx (hb hby d3_32) (v := (0 : Int32)) (by decide) (pc' := 33) rfl ?_
        refine R.dup2 X3 hx (hb hby d3_33) rfl rfl (pc' := 34) rfl ?_
        refine R.daload X3 hx hZ e3 V_b3 (⟨by decide, by decide⟩ : ¬ (0 : Int32) < 0 ∧ (0 : Int32) < (2 : Int32)) (v := (.double (0 : UInt64))) (own_getH_nil _ _) (hb hby d3_34) (pc' := 35) rfl ?_
        refine R.aloadN X3 hx (hb hby d3_35) rfl rfl (pc' := 36) rfl ?_
        refine R.iloadN X3 hx (hb hby d3_36) rfl (pc' := 37) rfl ?_
        refine R.daload X3 hx hZ e3 V_a0 (⟨by decide, by decide⟩ : ¬ (0 : Int32) < 0 ∧ (0 : Int32) < (1 : Int32)) (v := (.double x0)) (r0_a0) (hb hby d3_37) (pc' := 38) rfl ?_
        refine R.aloadN X3 hx (hb hby d3_38) rfl rfl (pc' := 39) rfl ?_
        refine R.iload X3 hx (hb hby d3_39) rfl (pc' := 41) rfl ?_
        refine R.daload X3 hx hZ e3 V_a1 (⟨by decide, by decide⟩ : ¬ (0 : Int32) < 0 ∧ (0 : Int32) < (2 : Int32)) (v := (.double y0)) (r0_a1) (hb hby d3_41) (pc' := 42) rfl ?_
        refine R.dmul X3 hx (hb hby d3_42) ((Dy.mul (D0_a0) (D0_a1) ((own_ab.mul b0_a0 b0_a1).lt (by decide)) (by decide)).nn : NoNaN64 (FP.dmul x0 y0)) (pc' := 43) rfl ?_
        refine R.dadd X3 hx (hb hby d3_43) ((Dy.add own_zero (Dy.mul (D0_a0) (D0_a1) ((own_ab.mul b0_a0 b0_a1).lt (by decide)) (by decide)) ((own_ab.add own_ab0 (own_ab.mul b0_a0 b0_a1)).lt (by decide)) (by decide)).nn : NoNaN64 (FP.dadd (0 : UInt64) (FP.dmul x0 y0))) (pc' := 44) rfl ?_
        refine R.dastore X3 hx hZ e3 V_b3 (⟨by decide, by decide⟩ : ¬ (0 : Int32) < 0 ∧ (0 : Int32) < (2 : Int32)) (hb hby d3_44) (pc' := 45) rfl ?_; intro T4 h4 X4 e4 W4 V4
        have V_a0 := V_a0.other W4 ne_a0_b3
        have V_a1 := V_a1.other W4 ne_a1_b3
        have V_b3 : Arh Z h4 b3 k3 .double (2 : Int32) [((0 : Int32), (.double (FP.dadd (0 : UInt64) (FP.dmul x0 y0))))] [] (.double (0 : UInt64)) := V4
        have N4 := Fr.snoc X4 N0 g_b3
        have K4 : Keep h0 h4 [] := K3.wr W4 (Or.inr sz_b3)
        have Z4 : n0 ≤ h4.size := Nat.le_trans Z3 (Keep.of_wr W4).1
        refine R.iinc X4 hx (hb hby d3_45) rfl (L' := #[.val (.ref a0), .val (.ref a1), .val (.ref b3), .val (.int (0 : Int32)), .val (.int (1 : Int32))]) rfl (pc' := 48) rfl ?_
        refine R.goto X4 hx (hb hby d3_48) (by decide) (pc' := 21) (by decide) ?_
        refine R.iload X4 hx (hb hby d3_21) rfl (pc' := 23) rfl ?_
        refine R.aloadN X4 hx (hb hby d3_23) rfl rfl (pc' := 24) rfl ?_
        refine R.alen X4 hx hZ e4 V_a1 (hb hby d3_24) (pc' := 25) rfl ?_
        refine R.icmpNo X4 hx (hb hby d3_25) (tlt (by decide : (1 : Int32) < (2 : Int32))).2.1 (pc' := 28) rfl ?_
        refine R.aloadN X4 hx (hb hby d3_28) rfl rfl (pc' := 29) rfl ?_
        refine R.iloadN X4 hx (hb hby d3_29) rfl (pc' := 30) rfl ?_
        refine R.iload X4 hx (hb hby d3_30) rfl (pc' := 32) rfl ?_
        refine R.iadd X4 hx (hb hby d3_32) (v := (1 : Int32)) (by decide) (pc' := 33) rfl ?_
        refine R.dup2 X4 hx (hb hby d3_33) rfl rfl (pc' := 34) rfl ?_
        refine R.daload X4 hx hZ e4 V_b3 (⟨by decide, by decide⟩ : ¬ (1 : Int32) < 0 ∧ (1 : Int32) < (2 : Int32)) (v := (.double (0 : UInt64))) (getH_miss ((⟨by decide, by decide⟩ : ¬ (1 : Int32) < 0 ∧ (1 : Int32) < (2 : Int32))).1 (by decide) (own_getH_nil _ _)) (hb hby d3_34) (pc' := 35) rfl ?_
        refine R.aloadN X4 hx (hb hby d3_35) rfl rfl (pc' := 36) rfl ?_
        refine R.iloadN X4 hx (hb hby d3_36) rfl (pc' := 37) rfl ?_
        refine R.daload X4 hx hZ e4 V_a0 (⟨by decide, by decide⟩ : ¬ (0 : Int32) < 0 ∧ (0 : Int32) < (1 : Int32)) (v := (.double x0)) (r0_a0) (hb hby d3_37) (pc' := 38) rfl ?_
        refine R.aloadN X4 hx (hb hby d3_38) rfl rfl (pc' := 39) rfl ?_
        refine R.iload X4 hx (hb hby d3_39) rfl (pc' := 41) rfl ?_
        refine R.daload X4 hx hZ e4 V_a1 (⟨by decide, by decide⟩ : ¬ (1 : Int32) < 0 ∧ (1 : Int32) < (2 : Int32)) (v := (.double y1)) (r1_a1 (by decide)) (hb hby d3_41) (pc' := 42) rfl ?_
        refine R.dmul X4 hx (hb hby d3_42) ((Dy.mul (D0_a0) (D1_a1 (by decide)) ((own_ab.mul b0_a0 b1_a1).lt (by decide)) (by decide)).nn : NoNaN64 (FP.dmul x0 y1)) (pc' := 43) rfl ?_
        refine R.dadd X4 hx (hb hby d3_43) ((Dy.add own_zero (Dy.mul (D0_a0) (D1_a1 (by decide)) ((own_ab.mul b0_a0 b1_a1).lt (by decide)) (by decide)) ((own_ab.add own_ab0 (own_ab.mul b0_a0 b1_a1)).lt (by decide)) (by decide)).nn : NoNaN64 (FP.dadd (0 : UInt64) (FP.dmul x0 y1))) (pc' := 44) rfl ?_
        refine R.dastore X4 hx hZ e4 V_b3 (⟨by decide, by decide⟩ : ¬ (1 : Int32) < 0 ∧ (1 : Int32) < (2 : Int32)) (hb hby d3_44) (pc' := 45) rfl ?_; intro T5 h5 X5 e5 W5 V5
        have V_a0 := V_a0.other W5 ne_a0_b3
        have V_a1 := V_a1.other W5 ne_a1_b3
        have V_b3 : Arh Z h5 b3 k3 .double (2 : Int32) [((1 : Int32), (.double (FP.dadd (0 : UInt64) (FP.dmul x0 y1)))), ((0 : Int32), (.double (FP.dadd (0 : UInt64) (FP.dmul x0 y0))))] [] (.double (0 : UInt64)) := V5
        have N5 := Fr.snoc X5 N4 g_b3
        have K5 : Keep h0 h5 [] := K4.wr W5 (Or.inr sz_b3)
        have Z5 : n0 ≤ h5.size := Nat.le_trans Z4 (Keep.of_wr W5).1
        refine R.iinc X5 hx (hb hby d3_45) rfl (L' := #[.val (.ref a0), .val (.ref a1), .val (.ref b3), .val (.int (0 : Int32)), .val (.int (2 : Int32))]) rfl (pc' := 48) rfl ?_
        refine R.goto X5 hx (hb hby d3_48) (by decide) (pc' := 21) (by decide) ?_
        refine R.iload X5 hx (hb hby d3_21) rfl (pc' := 23) rfl ?_
        refine R.aloadN X5 hx (hb hby d3_23) rfl rfl (pc' := 24) rfl ?_
        refine R.alen X5 hx hZ e5 V_a1 (hb hby d3_24) (pc' := 25) rfl ?_
        refine R.icmpYes X5 hx (hb hby d3_25) (flt (by decide : ¬ ((2 : Int32) < (2 : Int32)))).2.1 (by decide) (pc' := 51) (by decide) ?_
        refine R.iinc X5 hx (hb hby d3_51) rfl (L' := #[.val (.ref a0), .val (.ref a1), .val (.ref b3), .val (.int (1 : Int32)), .val (.int (2 : Int32))]) rfl (pc' := 54) rfl ?_
        refine R.goto X5 hx (hb hby d3_54) (by decide) (pc' := 12) (by decide) ?_
        refine R.iloadN X5 hx (hb hby d3_12) rfl (pc' := 13) rfl ?_
        refine R.aloadN X5 hx (hb hby d3_13) rfl rfl (pc' := 14) rfl ?_
        refine R.alen X5 hx hZ e5 V_a0 (hb hby d3_14) (pc' := 15) rfl ?_
        refine R.icmpYes X5 hx (hb hby d3_15) (flt (by decide : ¬ ((1 : Int32) < (1 : Int32)))).2.1 (by decide) (pc' := 57) (by decide) ?_
        refine R.aloadN X5 hx (hb hby d3_57) rfl rfl (pc' := 58) rfl ?_
        rw [← hG]
        exact Rn.ret X5 (BodyLoose.notSynchronized Bd) (v := some (.ref b3)) (fun h => by rw [Bd.returns] at h; cases h) (Q := Q3 Z a0 a1 ka kb (1 : Int32) (2 : Int32) ha hbb x0 x1 x2 y0 y1 y2 A0 A1 A2 B0 B1 B2 h0 n0) e5 (fun fs hr => retOut X5 hx (t := (.array .double)) Bd.returns rfl (Or.inr (Or.inr (Or.inr (Or.inr ⟨rfl, rfl, rfl⟩)))) (hb hby d3_58) hr) ⟨b3, k3, [((1 : Int32), (.double (FP.dadd (0 : UInt64) (FP.dmul x0 y1)))), ((0 : Int32), (.double (FP.dadd (0 : UInt64) (FP.dmul x0 y0))))], rfl, N5, K5, sz_b3, V_b3, (fun _ => ⟨_, getH_miss (by decide) (by decide) (getH_hit (by decide) (rfl)), Dy.cast (Dy.add own_zero (Dy.mul (D0_a0) (D0_a1) ((own_ab.mul b0_a0 b0_a1).lt (by decide)) (by decide)) ((own_ab.add own_ab0 (own_ab.mul b0_a0 b0_a1)).lt (by decide)) (by decide)) (by first | omega | (simp only [z1_a0 (by decide), z2_a0 (by decide), z2_a1 (by decide)]; omega)) rfl⟩), (fun _ => ⟨_, getH_hit (by decide) (rfl), Dy.cast (Dy.add own_zero (Dy.mul (D0_a0) (D1_a1 (by decide)) ((own_ab.mul b0_a0 b1_a1).lt (by decide)) (by decide)) ((own_ab.add own_ab0 (own_ab.mul b0_a0 b1_a1)).lt (by decide)) (by decide)) (by first | omega | (simp only [z1_a0 (by decide), z2_a0 (by decide), z2_a1 (by decide)]; omega)) rfl⟩), (fun q => absurd q (by decide)), (fun q => absurd q (by decide)), (fun q => absurd q (by decide))⟩ (by decide) (by decide)
      · refine R.aloadN X0 hx (hb hby d3_0) rfl rfl (pc' := 1) rfl ?_
        refine R.alen X0 hx hZ e0 V_a0 (hb hby d3_1) (pc' := 2) rfl ?_
        refine R.aloadN X0 hx (hb hby d3_2) rfl rfl (pc' := 3) rfl ?_
        refine R.alen X0 hx hZ e0 V_a1 (hb hby d3_3) (pc' := 4) rfl ?_
        refine R.iadd X0 hx (hb hby d3_4) (v := (4 : Int32)) (by decide) (pc' := 5) rfl ?_
        refine R.iconst X0 hx (hb hby d3_5) (v := (1 : Int32)) (by decide) (pc' := 6) rfl ?_
        refine R.isub X0 hx (hb hby d3_6) (v := (3 : Int32)) (by decide) (pc' := 7) rfl ?_
        refine R.newP X0 hx hZ (ty := .double) rfl w_7 e0 (by decide) (cap := 3) (by decide) (by decide) (ad := "[D") (by decide) (hb hby d3_7) (pc' := 9) rfl (by decide) (by decide) ?_; intro T6 h6 b6 k6 g6 X6 e6 E6 EE6 AA6
        have g_b6 : n0 ≤ b6 := Nat.le_trans Z0 (Nat.le_of_eq g6.symm)
        have sz_b6 : h0.size ≤ b6 := Nat.le_trans K0.1 (Nat.le_of_eq g6.symm)
        have ne_a0_b6 : a0 ≠ b6 := Nat.ne_of_lt (Nat.lt_of_lt_of_le V_a0.lt (Nat.le_of_eq g6.symm))
        have ne_a1_b6 : a1 ≠ b6 := Nat.ne_of_lt (Nat.lt_of_lt_of_le V_a1.lt (Nat.le_of_eq g6.symm))
        have K6 : Keep h0 h6 [] := K0.ext E6
        have Z6 : n0 ≤ h6.size := Nat.le_trans Z0 E6.1
        have V_a0 := V_a0.ext E6
        have V_a1 := V_a1.ext E6
        have V_b6 : Arh Z h6 b6 k6 .double (3 : Int32) [] [] (.double (0 : UInt64)) := AA6
        refine R.astoreN X6 hx (hb hby d3_9) rfl (L' := #[.val (.ref a0), .val (.ref a1), .val (.ref b6), .unset, .unset]) rfl (pc' := 10) rfl ?_
        refine R.iconst X6 hx (hb hby d3_10) (v := (0 : Int32)) (by decide) (pc' := 11) rfl ?_
        refine R.istoreN X6 hx (hb hby d3_11) (L' := #[.val (.ref a0), .val (.ref a1), .val (.ref b6), .val (.int (0 : Int32)), .unset]) rfl (pc' := 12) rfl ?_
        refine R.iloadN X6 hx (hb hby d3_12) rfl (pc' := 13) rfl ?_
        refine R.aloadN X6 hx (hb hby d3_13) rfl rfl (pc' := 14) rfl ?_
        refine R.alen X6 hx hZ e6 V_a0 (hb hby d3_14) (pc' := 15) rfl ?_
        refine R.icmpNo X6 hx (hb hby d3_15) (tlt (by decide : (0 : Int32) < (1 : Int32))).2.1 (pc' := 18) rfl ?_
        refine R.iconst X6 hx (hb hby d3_18) (v := (0 : Int32)) (by decide) (pc' := 19) rfl ?_
        refine R.istore X6 hx (hb hby d3_19) (L' := #[.val (.ref a0), .val (.ref a1), .val (.ref b6), .val (.int (0 : Int32)), .val (.int (0 : Int32))]) rfl (pc' := 21) rfl ?_
        refine R.iload X6 hx (hb hby d3_21) rfl (pc' := 23) rfl ?_
        refine R.aloadN X6 hx (hb hby d3_23) rfl rfl (pc' := 24) rfl ?_
        refine R.alen X6 hx hZ e6 V_a1 (hb hby d3_24) (pc' := 25) rfl ?_
        refine R.icmpNo X6 hx (hb hby d3_25) (tlt (by decide : (0 : Int32) < (3 : Int32))).2.1 (pc' := 28) rfl ?_
        refine R.aloadN X6 hx (hb hby d3_28) rfl rfl (pc' := 29) rfl ?_
        refine R.iloadN X6 hx (hb hby d3_29) rfl (pc' := 30) rfl ?_
        refine R.iload X6 hx (hb hby d3_30) rfl (pc' := 32) rfl ?_
        refine R.iadd X6 hx (hb hby d3_32) (v := (0 : Int32)) (by decide) (pc' := 33) rfl ?_
        refine R.dup2 X6 hx (hb hby d3_33) rfl rfl (pc' := 34) rfl ?_
        refine R.daload X6 hx hZ e6 V_b6 (⟨by decide, by decide⟩ : ¬ (0 : Int32) < 0 ∧ (0 : Int32) < (3 : Int32)) (v := (.double (0 : UInt64))) (own_getH_nil _ _) (hb hby d3_34) (pc' := 35) rfl ?_
        refine R.aloadN X6 hx (hb hby d3_35) rfl rfl (pc' := 36) rfl ?_
        refine R.iloadN X6 hx (hb hby d3_36) rfl (pc' := 37) rfl ?_
        refine R.daload X6 hx hZ e6 V_a0 (⟨by decide, by decide⟩ : ¬ (0 : Int32) < 0 ∧ (0 : Int32) < (1 : Int32)) (v := (.double x0)) (r0_a0) (hb hby d3_37) (pc' := 38) rfl ?_
        refine R.aloadN X6 hx (hb hby d3_38) rfl rfl (pc' := 39) rfl ?_
        refine R.iload X6 hx (hb hby d3_39) rfl (pc' := 41) rfl ?_
        refine R.daload X6 hx hZ e6 V_a1 (⟨by decide, by decide⟩ : ¬ (0 : Int32) < 0 ∧ (0 : Int32) < (3 : Int32)) (v := (.double y0)) (r0_a1) (hb hby d3_41) (pc' := 42) rfl ?_
        refine R.dmul X6 hx (hb hby d3_42) ((Dy.mul (D0_a0) (D0_a1) ((own_ab.mul b0_a0 b0_a1).lt (by decide)) (by decide)).nn : NoNaN64 (FP.dmul x0 y0)) (pc' := 43) rfl ?_
        refine R.dadd X6 hx (hb hby d3_43) ((Dy.add own_zero (Dy.mul (D0_a0) (D0_a1) ((own_ab.mul b0_a0 b0_a1).lt (by decide)) (by decide)) ((own_ab.add own_ab0 (own_ab.mul b0_a0 b0_a1)).lt (by decide)) (by decide)).nn : NoNaN64 (FP.dadd (0 : UInt64) (FP.dmul x0 y0))) (pc' := 44) rfl ?_
        refine R.dastore X6 hx hZ e6 V_b6 (⟨by decide, by decide⟩ : ¬ (0 : Int32) < 0 ∧ (0 : Int32) < (3 : Int32)) (hb hby d3_44) (pc' := 45) rfl ?_; intro T7 h7 X7 e7 W7 V7
        have V_a0 := V_a0.other W7 ne_a0_b6
        have V_a1 := V_a1.other W7 ne_a1_b6
        have V_b6 : Arh Z h7 b6 k6 .double (3 : Int32) [((0 : Int32), (.double (FP.dadd (0 : UInt64) (FP.dmul x0 y0))))] [] (.double (0 : UInt64)) := V7
        have N7 := Fr.snoc X7 N0 g_b6
        have K7 : Keep h0 h7 [] := K6.wr W7 (Or.inr sz_b6)
        have Z7 : n0 ≤ h7.size := Nat.le_trans Z6 (Keep.of_wr W7).1
        refine R.iinc X7 hx (hb hby d3_45) rfl (L' := #[.val (.ref a0), .val (.ref a1), .val (.ref b6), .val (.int (0 : Int32)), .val (.int (1 : Int32))]) rfl (pc' := 48) rfl ?_
        refine R.goto X7 hx (hb hby d3_48) (by decide) (pc' := 21) (by decide) ?_
        refine R.iload X7 hx (hb hby d3_21) rfl (pc' := 23) rfl ?_
        refine R.aloadN X7 hx (hb hby d3_23) rfl rfl (pc' := 24) rfl ?_
        refine R.alen X7 hx hZ e7 V_a1 (hb hby d3_24) (pc' := 25) rfl ?_
        refine R.icmpNo X7 hx (hb hby d3_25) (tlt (by decide : (1 : Int32) < (3 : Int32))).2.1 (pc' := 28) rfl ?_
        refine R.aloadN X7 hx (hb hby d3_28) rfl rfl (pc' := 29) rfl ?_
        refine R.iloadN X7 hx (hb hby d3_29) rfl (pc' := 30) rfl ?_
        refine R.iload X7 hx (hb hby d3_30) rfl (pc' := 32) rfl ?_
        refine R.iadd X7 hx (hb hby d3_32) (v := (1 : Int32)) (by decide) (pc' := 33) rfl ?_
        refine R.dup2 X7 hx (hb hby d3_33) rfl rfl (pc' := 34) rfl ?_
        refine R.daload X7 hx hZ e7 V_b6 (⟨by decide, by decide⟩ : ¬ (1 : Int32) < 0 ∧ (1 : Int32) < (3 : Int32)) (v := (.double (0 : UInt64))) (getH_miss ((⟨by decide, by decide⟩ : ¬ (1 : Int32) < 0 ∧ (1 : Int32) < (3 : Int32))).1 (by decide) (own_getH_nil _ _)) (hb hby d3_34) (pc' := 35) rfl ?_
        refine R.aloadN X7 hx (hb hby d3_35) rfl rfl (pc' := 36) rfl ?_
        refine R.iloadN X7 hx (hb hby d3_36) rfl (pc' := 37) rfl ?_
        refine R.daload X7 hx hZ e7 V_a0 (⟨by decide, by decide⟩ : ¬ (0 : Int32) < 0 ∧ (0 : Int32) < (1 : Int32)) (v := (.double x0)) (r0_a0) (hb hby d3_37) (pc' := 38) rfl ?_
        refine R.aloadN X7 hx (hb hby d3_38) rfl rfl (pc' := 39) rfl ?_
        refine R.iload X7 hx (hb hby d3_39) rfl (pc' := 41) rfl ?_
        refine R.daload X7 hx hZ e7 V_a1 (⟨by decide, by decide⟩ : ¬ (1 : Int32) < 0 ∧ (1 : Int32) < (3 : Int32)) (v := (.double y1)) (r1_a1 (by decide)) (hb hby d3_41) (pc' := 42) rfl ?_
        refine R.dmul X7 hx (hb hby d3_42) ((Dy.mul (D0_a0) (D1_a1 (by decide)) ((own_ab.mul b0_a0 b1_a1).lt (by decide)) (by decide)).nn : NoNaN64 (FP.dmul x0 y1)) (pc' := 43) rfl ?_
        refine R.dadd X7 hx (hb hby d3_43) ((Dy.add own_zero (Dy.mul (D0_a0) (D1_a1 (by decide)) ((own_ab.mul b0_a0 b1_a1).lt (by decide)) (by decide)) ((own_ab.add own_ab0 (own_ab.mul b0_a0 b1_a1)).lt (by decide)) (by decide)).nn : NoNaN64 (FP.dadd (0 : UInt64) (FP.dmul x0 y1))) (pc' := 44) rfl ?_
        refine R.dastore X7 hx hZ e7 V_b6 (⟨by decide, by decide⟩ : ¬ (1 : Int32) < 0 ∧ (1 : Int32) < (3 : Int32)) (hb hby d3_44) (pc' := 45) rfl ?_; intro T8 h8 X8 e8 W8 V8
        have V_a0 := V_a0.other W8 ne_a0_b6
        have V_a1 := V_a1.other W8 ne_a1_b6
        have V_b6 : Arh Z h8 b6 k6 .double (3 : Int32) [((1 : Int32), (.double (FP.dadd (0 : UInt64) (FP.dmul x0 y1)))), ((0 : Int32), (.double (FP.dadd (0 : UInt64) (FP.dmul x0 y0))))] [] (.double (0 : UInt64)) := V8
        have N8 := Fr.snoc X8 N7 g_b6
        have K8 : Keep h0 h8 [] := K7.wr W8 (Or.inr sz_b6)
        have Z8 : n0 ≤ h8.size := Nat.le_trans Z7 (Keep.of_wr W8).1
        refine R.iinc X8 hx (hb hby d3_45) rfl (L' := #[.val (.ref a0), .val (.ref a1), .val (.ref b6), .val (.int (0 : Int32)), .val (.int (2 : Int32))]) rfl (pc' := 48) rfl ?_
        refine R.goto X8 hx (hb hby d3_48) (by decide) (pc' := 21) (by decide) ?_
        refine R.iload X8 hx (hb hby d3_21) rfl (pc' := 23) rfl ?_
        refine R.aloadN X8 hx (hb hby d3_23) rfl rfl (pc' := 24) rfl ?_
        refine R.alen X8 hx hZ e8 V_a1 (hb hby d3_24) (pc' := 25) rfl ?_
        refine R.icmpNo X8 hx (hb hby d3_25) (tlt (by decide : (2 : Int32) < (3 : Int32))).2.1 (pc' := 28) rfl ?_
        refine R.aloadN X8 hx (hb hby d3_28) rfl rfl (pc' := 29) rfl ?_
        refine R.iloadN X8 hx (hb hby d3_29) rfl (pc' := 30) rfl ?_
        refine R.iload X8 hx (hb hby d3_30) rfl (pc' := 32) rfl ?_
        refine R.iadd X8 hx (hb hby d3_32) (v := (2 : Int32)) (by decide) (pc' := 33) rfl ?_
        refine R.dup2 X8 hx (hb hby d3_33) rfl rfl (pc' := 34) rfl ?_
        refine R.daload X8 hx hZ e8 V_b6 (⟨by decide, by decide⟩ : ¬ (2 : Int32) < 0 ∧ (2 : Int32) < (3 : Int32)) (v := (.double (0 : UInt64))) (getH_miss ((⟨by decide, by decide⟩ : ¬ (2 : Int32) < 0 ∧ (2 : Int32) < (3 : Int32))).1 (by decide) (getH_miss ((⟨by decide, by decide⟩ : ¬ (2 : Int32) < 0 ∧ (2 : Int32) < (3 : Int32))).1 (by decide) (own_getH_nil _ _))) (hb hby d3_34) (pc' := 35) rfl ?_
        refine R.aloadN X8 hx (hb hby d3_35) rfl rfl (pc' := 36) rfl ?_
        refine R.iloadN X8 hx (hb hby d3_36) rfl (pc' := 37) rfl ?_
        refine R.daload X8 hx hZ e8 V_a0 (⟨by decide, by decide⟩ : ¬ (0 : Int32) < 0 ∧ (0 : Int32) < (1 : Int32)) (v := (.double x0)) (r0_a0) (hb hby d3_37) (pc' := 38) rfl ?_
        refine R.aloadN X8 hx (hb hby d3_38) rfl rfl (pc' := 39) rfl ?_
        refine R.iload X8 hx (hb hby d3_39) rfl (pc' := 41) rfl ?_
        refine R.daload X8 hx hZ e8 V_a1 (⟨by decide, by decide⟩ : ¬ (2 : Int32) < 0 ∧ (2 : Int32) < (3 : Int32)) (v := (.double y2)) (r2_a1 (by decide)) (hb hby d3_41) (pc' := 42) rfl ?_
        refine R.dmul X8 hx (hb hby d3_42) ((Dy.mul (D0_a0) (D2_a1 (by decide)) ((own_ab.mul b0_a0 b2_a1).lt (by decide)) (by decide)).nn : NoNaN64 (FP.dmul x0 y2)) (pc' := 43) rfl ?_
        refine R.dadd X8 hx (hb hby d3_43) ((Dy.add own_zero (Dy.mul (D0_a0) (D2_a1 (by decide)) ((own_ab.mul b0_a0 b2_a1).lt (by decide)) (by decide)) ((own_ab.add own_ab0 (own_ab.mul b0_a0 b2_a1)).lt (by decide)) (by decide)).nn : NoNaN64 (FP.dadd (0 : UInt64) (FP.dmul x0 y2))) (pc' := 44) rfl ?_
        refine R.dastore X8 hx hZ e8 V_b6 (⟨by decide, by decide⟩ : ¬ (2 : Int32) < 0 ∧ (2 : Int32) < (3 : Int32)) (hb hby d3_44) (pc' := 45) rfl ?_; intro T9 h9 X9 e9 W9 V9
        have V_a0 := V_a0.other W9 ne_a0_b6
        have V_a1 := V_a1.other W9 ne_a1_b6
        have V_b6 : Arh Z h9 b6 k6 .double (3 : Int32) [((2 : Int32), (.double (FP.dadd (0 : UInt64) (FP.dmul x0 y2)))), ((1 : Int32), (.double (FP.dadd (0 : UInt64) (FP.dmul x0 y1)))), ((0 : Int32), (.double (FP.dadd (0 : UInt64) (FP.dmul x0 y0))))] [] (.double (0 : UInt64)) := V9
        have N9 := Fr.snoc X9 N8 g_b6
        have K9 : Keep h0 h9 [] := K8.wr W9 (Or.inr sz_b6)
        have Z9 : n0 ≤ h9.size := Nat.le_trans Z8 (Keep.of_wr W9).1
        refine R.iinc X9 hx (hb hby d3_45) rfl (L' := #[.val (.ref a0), .val (.ref a1), .val (.ref b6), .val (.int (0 : Int32)), .val (.int (3 : Int32))]) rfl (pc' := 48) rfl ?_
        refine R.goto X9 hx (hb hby d3_48) (by decide) (pc' := 21) (by decide) ?_
        refine R.iload X9 hx (hb hby d3_21) rfl (pc' := 23) rfl ?_
        refine R.aloadN X9 hx (hb hby d3_23) rfl rfl (pc' := 24) rfl ?_
        refine R.alen X9 hx hZ e9 V_a1 (hb hby d3_24) (pc' := 25) rfl ?_
        refine R.icmpYes X9 hx (hb hby d3_25) (flt (by decide : ¬ ((3 : Int32) < (3 : Int32)))).2.1 (by decide) (pc' := 51) (by decide) ?_
        refine R.iinc X9 hx (hb hby d3_51) rfl (L' := #[.val (.ref a0), .val (.ref a1), .val (.ref b6), .val (.int (1 : Int32)), .val (.int (3 : Int32))]) rfl (pc' := 54) rfl ?_
        refine R.goto X9 hx (hb hby d3_54) (by decide) (pc' := 12) (by decide) ?_
        refine R.iloadN X9 hx (hb hby d3_12) rfl (pc' := 13) rfl ?_
        refine R.aloadN X9 hx (hb hby d3_13) rfl rfl (pc' := 14) rfl ?_
        refine R.alen X9 hx hZ e9 V_a0 (hb hby d3_14) (pc' := 15) rfl ?_
        refine R.icmpYes X9 hx (hb hby d3_15) (flt (by decide : ¬ ((1 : Int32) < (1 : Int32)))).2.1 (by decide) (pc' := 57) (by decide) ?_
        refine R.aloadN X9 hx (hb hby d3_57) rfl rfl (pc' := 58) rfl ?_
        rw [← hG]
        exact Rn.ret X9 (BodyLoose.notSynchronized Bd) (v := some (.ref b6)) (fun h => by rw [Bd.returns] at h; cases h) (Q := Q3 Z a0 a1 ka kb (1 : Int32) (3 : Int32) ha hbb x0 x1 x2 y0 y1 y2 A0 A1 A2 B0 B1 B2 h0 n0) e9 (fun fs hr => retOut X9 hx (t := (.array .double)) Bd.returns rfl (Or.inr (Or.inr (Or.inr (Or.inr ⟨rfl, rfl, rfl⟩)))) (hb hby d3_58) hr) ⟨b6, k6, [((2 : Int32), (.double (FP.dadd (0 : UInt64) (FP.dmul x0 y2)))), ((1 : Int32), (.double (FP.dadd (0 : UInt64) (FP.dmul x0 y1)))), ((0 : Int32), (.double (FP.dadd (0 : UInt64) (FP.dmul x0 y0))))], rfl, N9, K9, sz_b6, V_b6, (fun _ => ⟨_, getH_miss (by decide) (by decide) (getH_miss (by decide) (by decide) (getH_hit (by decide) (rfl))), Dy.cast (Dy.add own_zero (Dy.mul (D0_a0) (D0_a1) ((own_ab.mul b0_a0 b0_a1).lt (by decide)) (by decide)) ((own_ab.add own_ab0 (own_ab.mul b0_a0 b0_a1)).lt (by decide)) (by decide)) (by first | omega | (simp only [z1_a0 (by decide), z2_a0 (by decide)]; omega)) rfl⟩), (fun _ => ⟨_, getH_miss (by decide) (by decide) (getH_hit (by decide) (rfl)), Dy.cast (Dy.add own_zero (Dy.mul (D0_a0) (D1_a1 (by decide)) ((own_ab.mul b0_a0 b1_a1).lt (by decide)) (by decide)) ((own_ab.add own_ab0 (own_ab.mul b0_a0 b1_a1)).lt (by decide)) (by decide)) (by first | omega | (simp only [z1_a0 (by decide), z2_a0 (by decide)]; omega)) rfl⟩), (fun _ => ⟨_, getH_hit (by decide) (rfl), Dy.cast (Dy.add own_zero (Dy.mul (D0_a0) (D2_a1 (by decide)) ((own_ab.mul b0_a0 b2_a1).lt (by decide)) (by decide)) ((own_ab.add own_ab0 (own_ab.mul b0_a0 b2_a1)).lt (by decide)) (by decide)) (by first | omega | (simp only [z1_a0 (by decide), z2_a0 (by decide)]; omega)) rfl⟩), (fun q => absurd q (by decide)), (fun q => absurd q (by decide))⟩ (by decide) (by decide)
    · rcases hl_a1 with rfl | rfl | rfl
      · refine R.aloadN X0 hx (hb hby d3_0) rfl rfl (pc' := 1) rfl ?_
        refine R.alen X0 hx hZ e0 V_a0 (hb hby d3_1) (pc' := 2) rfl ?_
        refine R.aloadN X0 hx (hb hby d3_2) rfl rfl (pc' := 3) rfl ?_
        refine R.alen X0 hx hZ e0 V_a1 (hb hby d3_3) (pc' := 4) rfl ?_
        refine R.iadd X0 hx (hb hby d3_4) (v := (3 : Int32)) (by decide) (pc' := 5) rfl ?_
        refine R.iconst X0 hx (hb hby d3_5) (v := (1 : Int32)) (by decide) (pc' := 6) rfl ?_
        refine R.isub X0 hx (hb hby d3_6) (v := (2 : Int32)) (by decide) (pc' := 7) rfl ?_
        refine R.newP X0 hx hZ (ty := .double) rfl w_7 e0 (by decide) (cap := 2) (by decide) (by decide) (ad := "[D") (by decide) (hb hby d3_7) (pc' := 9) rfl (by decide) (by decide) ?_; intro T10 h10 b10 k10 g10 X10 e10 E10 EE10 AA10
        have g_b10 : n0 ≤ b10 := Nat.le_trans Z0 (Nat.le_of_eq g10.symm)
        have sz_b10 : h0.size ≤ b10 := Nat.le_trans K0.1 (Nat.le_of_eq g10.symm)
        have ne_a0_b10 : a0 ≠ b10 := Nat.ne_of_lt (Nat.lt_of_lt_of_le V_a0.lt (Nat.le_of_eq g10.symm))
        have ne_a1_b10 : a1 ≠ b10 := Nat.ne_of_lt (Nat.lt_of_lt_of_le V_a1.lt (Nat.le_of_eq g10.symm))
        have K10 : Keep h0 h10 [] := K0.ext E10
        have Z10 : n0 ≤ h10.size := Nat.le_trans Z0 E10.1
        have V_a0 := V_a0.ext E10
        have V_a1 := V_a1.ext E10
        have V_b10 : Arh Z h10 b10 k10 .double (2 : Int32) [] [] (.double (0 : UInt64)) := AA10
        refine R.astoreN X10 hx (hb hby d3_9) rfl (L' := #[.val (.ref a0), .val (.ref a1), .val (.ref b10), .unset, .unset]) rfl (pc' := 10) rfl ?_
        refine R.iconst X10 hx (hb hby d3_10) (v := (0 : Int32)) (by decide) (pc' := 11) rfl ?_
        refine R.istoreN X10 hx (hb hby d3_11) (L' := #[.val (.ref a0), .val (.ref a1), .val (.ref b10), .val (.int (0 : Int32)), .unset]) rfl (pc' := 12) rfl ?_
        refine R.iloadN X10 hx (hb hby d3_12) rfl (pc' := 13) rfl ?_
        refine R.aloadN X10 hx (hb hby d3_13) rfl rfl (pc' := 14) rfl ?_
        refine R.alen X10 hx hZ e10 V_a0 (hb hby d3_14) (pc' := 15) rfl ?_
        refine R.icmpNo X10 hx (hb hby d3_15) (tlt (by decide : (0 : Int32) < (2 : Int32))).2.1 (pc' := 18) rfl ?_
        refine R.iconst X10 hx (hb hby d3_18) (v := (0 : Int32)) (by decide) (pc' := 19) rfl ?_
        refine R.istore X10 hx (hb hby d3_19) (L' := #[.val (.ref a0), .val (.ref a1), .val (.ref b10), .val (.int (0 : Int32)), .val (.int (0 : Int32))]) rfl (pc' := 21) rfl ?_
        refine R.iload X10 hx (hb hby d3_21) rfl (pc' := 23) rfl ?_
        refine R.aloadN X10 hx (hb hby d3_23) rfl rfl (pc' := 24) rfl ?_
        refine R.alen X10 hx hZ e10 V_a1 (hb hby d3_24) (pc' := 25) rfl ?_
        refine R.icmpNo X10 hx (hb hby d3_25) (tlt (by decide : (0 : Int32) < (1 : Int32))).2.1 (pc' := 28) rfl ?_
        refine R.aloadN X10 hx (hb hby d3_28) rfl rfl (pc' := 29) rfl ?_
        refine R.iloadN X10 hx (hb hby d3_29) rfl (pc' := 30) rfl ?_
        refine R.iload X10 hx (hb hby d3_30) rfl (pc' := 32) rfl ?_
        refine R.iadd X10 hx (hb hby d3_32) (v := (0 : Int32)) (by decide) (pc' := 33) rfl ?_
        refine R.dup2 X10 hx (hb hby d3_33) rfl rfl (pc' := 34) rfl ?_
        refine R.daload X10 hx hZ e10 V_b10 (⟨by decide, by decide⟩ : ¬ (0 : Int32) < 0 ∧ (0 : Int32) < (2 : Int32)) (v := (.double (0 : UInt64))) (own_getH_nil _ _) (hb hby d3_34) (pc' := 35) rfl ?_
        refine R.aloadN X10 hx (hb hby d3_35) rfl rfl (pc' := 36) rfl ?_
        refine R.iloadN X10 hx (hb hby d3_36) rfl (pc' := 37) rfl ?_
        refine R.daload X10 hx hZ e10 V_a0 (⟨by decide, by decide⟩ : ¬ (0 : Int32) < 0 ∧ (0 : Int32) < (2 : Int32)) (v := (.double x0)) (r0_a0) (hb hby d3_37) (pc' := 38) rfl ?_
        refine R.aloadN X10 hx (hb hby d3_38) rfl rfl (pc' := 39) rfl ?_
        refine R.iload X10 hx (hb hby d3_39) rfl (pc' := 41) rfl ?_
        refine R.daload X10 hx hZ e10 V_a1 (⟨by decide, by decide⟩ : ¬ (0 : Int32) < 0 ∧ (0 : Int32) < (1 : Int32)) (v := (.double y0)) (r0_a1) (hb hby d3_41) (pc' := 42) rfl ?_
        refine R.dmul X10 hx (hb hby d3_42) ((Dy.mul (D0_a0) (D0_a1) ((own_ab.mul b0_a0 b0_a1).lt (by decide)) (by decide)).nn : NoNaN64 (FP.dmul x0 y0)) (pc' := 43) rfl ?_
        refine R.dadd X10 hx (hb hby d3_43) ((Dy.add own_zero (Dy.mul (D0_a0) (D0_a1) ((own_ab.mul b0_a0 b0_a1).lt (by decide)) (by decide)) ((own_ab.add own_ab0 (own_ab.mul b0_a0 b0_a1)).lt (by decide)) (by decide)).nn : NoNaN64 (FP.dadd (0 : UInt64) (FP.dmul x0 y0))) (pc' := 44) rfl ?_
        refine R.dastore X10 hx hZ e10 V_b10 (⟨by decide, by decide⟩ : ¬ (0 : Int32) < 0 ∧ (0 : Int32) < (2 : Int32)) (hb hby d3_44) (pc' := 45) rfl ?_; intro T11 h11 X11 e11 W11 V11
        have V_a0 := V_a0.other W11 ne_a0_b10
        have V_a1 := V_a1.other W11 ne_a1_b10
        have V_b10 : Arh Z h11 b10 k10 .double (2 : Int32) [((0 : Int32), (.double (FP.dadd (0 : UInt64) (FP.dmul x0 y0))))] [] (.double (0 : UInt64)) := V11
        have N11 := Fr.snoc X11 N0 g_b10
        have K11 : Keep h0 h11 [] := K10.wr W11 (Or.inr sz_b10)
        have Z11 : n0 ≤ h11.size := Nat.le_trans Z10 (Keep.of_wr W11).1
        refine R.iinc X11 hx (hb hby d3_45) rfl (L' := #[.val (.ref a0), .val (.ref a1), .val (.ref b10), .val (.int (0 : Int32)), .val (.int (1 : Int32))]) rfl (pc' := 48) rfl ?_
        refine R.goto X11 hx (hb hby d3_48) (by decide) (pc' := 21) (by decide) ?_
        refine R.iload X11 hx (hb hby d3_21) rfl (pc' := 23) rfl ?_
        refine R.aloadN X11 hx (hb hby d3_23) rfl rfl (pc' := 24) rfl ?_
        refine R.alen X11 hx hZ e11 V_a1 (hb hby d3_24) (pc' := 25) rfl ?_
        refine R.icmpYes X11 hx (hb hby d3_25) (flt (by decide : ¬ ((1 : Int32) < (1 : Int32)))).2.1 (by decide) (pc' := 51) (by decide) ?_
        refine R.iinc X11 hx (hb hby d3_51) rfl (L' := #[.val (.ref a0), .val (.ref a1), .val (.ref b10), .val (.int (1 : Int32)), .val (.int (1 : Int32))]) rfl (pc' := 54) rfl ?_
        refine R.goto X11 hx (hb hby d3_54) (by decide) (pc' := 12) (by decide) ?_
        refine R.iloadN X11 hx (hb hby d3_12) rfl (pc' := 13) rfl ?_
        refine R.aloadN X11 hx (hb hby d3_13) rfl rfl (pc' := 14) rfl ?_
        refine R.alen X11 hx hZ e11 V_a0 (hb hby d3_14) (pc' := 15) rfl ?_
        refine R.icmpNo X11 hx (hb hby d3_15) (tlt (by decide : (1 : Int32) < (2 : Int32))).2.1 (pc' := 18) rfl ?_
        refine R.iconst X11 hx (hb hby d3_18) (v := (0 : Int32)) (by decide) (pc' := 19) rfl ?_
        refine R.istore X11 hx (hb hby d3_19) (L' := #[.val (.ref a0), .val (.ref a1), .val (.ref b10), .val (.int (1 : Int32)), .val (.int (0 : Int32))]) rfl (pc' := 21) rfl ?_
        refine R.iload X11 hx (hb hby d3_21) rfl (pc' := 23) rfl ?_
        refine R.aloadN X11 hx (hb hby d3_23) rfl rfl (pc' := 24) rfl ?_
        refine R.alen X11 hx hZ e11 V_a1 (hb hby d3_24) (pc' := 25) rfl ?_
        refine R.icmpNo X11 hx (hb hby d3_25) (tlt (by decide : (0 : Int32) < (1 : Int32))).2.1 (pc' := 28) rfl ?_
        refine R.aloadN X11 hx (hb hby d3_28) rfl rfl (pc' := 29) rfl ?_
        refine R.iloadN X11 hx (hb hby d3_29) rfl (pc' := 30) rfl ?_
        refine R.iload X11 hx (hb hby d3_30) rfl (pc' := 32) rfl ?_
        refine R.iadd X11 hx (hb hby d3_32) (v := (1 : Int32)) (by decide) (pc' := 33) rfl ?_
        refine R.dup2 X11 hx (hb hby d3_33) rfl rfl (pc' := 34) rfl ?_
        refine R.daload X11 hx hZ e11 V_b10 (⟨by decide, by decide⟩ : ¬ (1 : Int32) < 0 ∧ (1 : Int32) < (2 : Int32)) (v := (.double (0 : UInt64))) (getH_miss ((⟨by decide, by decide⟩ : ¬ (1 : Int32) < 0 ∧ (1 : Int32) < (2 : Int32))).1 (by decide) (own_getH_nil _ _)) (hb hby d3_34) (pc' := 35) rfl ?_
        refine R.aloadN X11 hx (hb hby d3_35) rfl rfl (pc' := 36) rfl ?_
        refine R.iloadN X11 hx (hb hby d3_36) rfl (pc' := 37) rfl ?_
        refine R.daload X11 hx hZ e11 V_a0 (⟨by decide, by decide⟩ : ¬ (1 : Int32) < 0 ∧ (1 : Int32) < (2 : Int32)) (v := (.double x1)) (r1_a0 (by decide)) (hb hby d3_37) (pc' := 38) rfl ?_
        refine R.aloadN X11 hx (hb hby d3_38) rfl rfl (pc' := 39) rfl ?_
        refine R.iload X11 hx (hb hby d3_39) rfl (pc' := 41) rfl ?_
        refine R.daload X11 hx hZ e11 V_a1 (⟨by decide, by decide⟩ : ¬ (0 : Int32) < 0 ∧ (0 : Int32) < (1 : Int32)) (v := (.double y0)) (r0_a1) (hb hby d3_41) (pc' := 42) rfl ?_
        refine R.dmul X11 hx (hb hby d3_42) ((Dy.mul (D1_a0 (by decide)) (D0_a1) ((own_ab.mul b1_a0 b0_a1).lt (by decide)) (by decide)).nn : NoNaN64 (FP.dmul x1 y0)) (pc' := 43) rfl ?_
        refine R.dadd X11 hx (hb hby d3_43) ((Dy.add own_zero (Dy.mul (D1_a0 (by decide)) (D0_a1) ((own_ab.mul b1_a0 b0_a1).lt (by decide)) (by decide)) ((own_ab.add own_ab0 (own_ab.mul b1_a0 b0_a1)).lt (by decide)) (by decide)).nn : NoNaN64 (FP.dadd (0 : UInt64) (FP.dmul x1 y0))) (pc' := 44) rfl ?_
        refine R.dastore X11 hx hZ e11 V_b10 (⟨by decide, by decide⟩ : ¬ (1 : Int32) < 0 ∧ (1 : Int32) < (2 : Int32)) (hb hby d3_44) (pc' := 45) rfl ?_; intro T12 h12 X12 e12 W12 V12
        have V_a0 := V_a0.other W12 ne_a0_b10
        have V_a1 := V_a1.other W12 ne_a1_b10
        have V_b10 : Arh Z h12 b10 k10 .double (2 : Int32) [((1 : Int32), (.double (FP.dadd (0 : UInt64) (FP.dmul x1 y0)))), ((0 : Int32), (.double (FP.dadd (0 : UInt64) (FP.dmul x0 y0))))] [] (.double (0 : UInt64)) := V12
        have N12 := Fr.snoc X12 N11 g_b10
        have K12 : Keep h0 h12 [] := K11.wr W12 (Or.inr sz_b10)
        have Z12 : n0 ≤ h12.size := Nat.le_trans Z11 (Keep.of_wr W12).1
        refine R.iinc X12 hx (hb hby d3_45) rfl (L' := #[.val (.ref a0), .val (.ref a1), .val (.ref b10), .val (.int (1 : Int32)), .val (.int (1 : Int32))]) rfl (pc' := 48) rfl ?_
        refine R.goto X12 hx (hb hby d3_48) (by decide) (pc' := 21) (by decide) ?_
        refine R.iload X12 hx (hb hby d3_21) rfl (pc' := 23) rfl ?_
        refine R.aloadN X12 hx (hb hby d3_23) rfl rfl (pc' := 24) rfl ?_
        refine R.alen X12 hx hZ e12 V_a1 (hb hby d3_24) (pc' := 25) rfl ?_
        refine R.icmpYes X12 hx (hb hby d3_25) (flt (by decide : ¬ ((1 : Int32) < (1 : Int32)))).2.1 (by decide) (pc' := 51) (by decide) ?_
        refine R.iinc X12 hx (hb hby d3_51) rfl (L' := #[.val (.ref a0), .val (.ref a1), .val (.ref b10), .val (.int (2 : Int32)), .val (.int (1 : Int32))]) rfl (pc' := 54) rfl ?_
        refine R.goto X12 hx (hb hby d3_54) (by decide) (pc' := 12) (by decide) ?_
        refine R.iloadN X12 hx (hb hby d3_12) rfl (pc' := 13) rfl ?_
        refine R.aloadN X12 hx (hb hby d3_13) rfl rfl (pc' := 14) rfl ?_
        refine R.alen X12 hx hZ e12 V_a0 (hb hby d3_14) (pc' := 15) rfl ?_
        refine R.icmpYes X12 hx (hb hby d3_15) (flt (by decide : ¬ ((2 : Int32) < (2 : Int32)))).2.1 (by decide) (pc' := 57) (by decide) ?_
        refine R.aloadN X12 hx (hb hby d3_57) rfl rfl (pc' := 58) rfl ?_
        rw [← hG]
        exact Rn.ret X12 (BodyLoose.notSynchronized Bd) (v := some (.ref b10)) (fun h => by rw [Bd.returns] at h; cases h) (Q := Q3 Z a0 a1 ka kb (2 : Int32) (1 : Int32) ha hbb x0 x1 x2 y0 y1 y2 A0 A1 A2 B0 B1 B2 h0 n0) e12 (fun fs hr => retOut X12 hx (t := (.array .double)) Bd.returns rfl (Or.inr (Or.inr (Or.inr (Or.inr ⟨rfl, rfl, rfl⟩)))) (hb hby d3_58) hr) ⟨b10, k10, [((1 : Int32), (.double (FP.dadd (0 : UInt64) (FP.dmul x1 y0)))), ((0 : Int32), (.double (FP.dadd (0 : UInt64) (FP.dmul x0 y0))))], rfl, N12, K12, sz_b10, V_b10, (fun _ => ⟨_, getH_miss (by decide) (by decide) (getH_hit (by decide) (rfl)), Dy.cast (Dy.add own_zero (Dy.mul (D0_a0) (D0_a1) ((own_ab.mul b0_a0 b0_a1).lt (by decide)) (by decide)) ((own_ab.add own_ab0 (own_ab.mul b0_a0 b0_a1)).lt (by decide)) (by decide)) (by first | omega | (simp only [z2_a0 (by decide), z1_a1 (by decide), z2_a1 (by decide)]; omega)) rfl⟩), (fun _ => ⟨_, getH_hit (by decide) (rfl), Dy.cast (Dy.add own_zero (Dy.mul (D1_a0 (by decide)) (D0_a1) ((own_ab.mul b1_a0 b0_a1).lt (by decide)) (by decide)) ((own_ab.add own_ab0 (own_ab.mul b1_a0 b0_a1)).lt (by decide)) (by decide)) (by first | omega | (simp only [z2_a0 (by decide), z1_a1 (by decide), z2_a1 (by decide)]; omega)) rfl⟩), (fun q => absurd q (by decide)), (fun q => absurd q (by decide)), (fun q => absurd q (by decide))⟩ (by decide) (by decide)
      · refine R.aloadN X0 hx (hb hby d3_0) rfl rfl (pc' := 1) rfl ?_
        refine R.alen X0 hx hZ e0 V_a0 (hb hby d3_1) (pc' := 2) rfl ?_
        refine R.aloadN X0 hx (hb hby d3_2) rfl rfl (pc' := 3) rfl ?_
        refine R.alen X0 hx hZ e0 V_a1 (hb hby d3_3) (pc' := 4) rfl ?_
        refine R.iadd X0 hx (hb hby d3_4) (v := (4 : Int32)) (by decide) (pc' := 5) rfl ?_
        refine R.iconst X0 hx (hb hby d3_5) (v := (1 : Int32)) (by decide) (pc' := 6) rfl ?_
        refine R.isub X0 hx (hb hby d3_6) (v := (3 : Int32)) (by decide) (pc' := 7) rfl ?_
        refine R.newP X0 hx hZ (ty := .double) rfl w_7 e0 (by decide) (cap := 3) (by decide) (by decide) (ad := "[D") (by decide) (hb hby d3_7) (pc' := 9) rfl (by decide) (by decide) ?_; intro T13 h13 b13 k13 g13 X13 e13 E13 EE13 AA13
        have g_b13 : n0 ≤ b13 := Nat.le_trans Z0 (Nat.le_of_eq g13.symm)
        have sz_b13 : h0.size ≤ b13 := Nat.le_trans K0.1 (Nat.le_of_eq g13.symm)
        have ne_a0_b13 : a0 ≠ b13 := Nat.ne_of_lt (Nat.lt_of_lt_of_le V_a0.lt (Nat.le_of_eq g13.symm))
        have ne_a1_b13 : a1 ≠ b13 := Nat.ne_of_lt (Nat.lt_of_lt_of_le V_a1.lt (Nat.le_of_eq g13.symm))
        have K13 : Keep h0 h13 [] := K0.ext E13
        have Z13 : n0 ≤ h13.size := Nat.le_trans Z0 E13.1
        have V_a0 := V_a0.ext E13
        have V_a1 := V_a1.ext E13
        have V_b13 : Arh Z h13 b13 k13 .double (3 : Int32) [] [] (.double (0 : UInt64)) := AA13
        refine R.astoreN X13 hx (hb hby d3_9) rfl (L' := #[.val (.ref a0), .val (.ref a1), .val (.ref b13), .unset, .unset]) rfl (pc' := 10) rfl ?_
        refine R.iconst X13 hx (hb hby d3_10) (v := (0 : Int32)) (by decide) (pc' := 11) rfl ?_
        refine R.istoreN X13 hx (hb hby d3_11) (L' := #[.val (.ref a0), .val (.ref a1), .val (.ref b13), .val (.int (0 : Int32)), .unset]) rfl (pc' := 12) rfl ?_
        refine R.iloadN X13 hx (hb hby d3_12) rfl (pc' := 13) rfl ?_
        refine R.aloadN X13 hx (hb hby d3_13) rfl rfl (pc' := 14) rfl ?_
        refine R.alen X13 hx hZ e13 V_a0 (hb hby d3_14) (pc' := 15) rfl ?_
        refine R.icmpNo X13 hx (hb hby d3_15) (tlt (by decide : (0 : Int32) < (2 : Int32))).2.1 (pc' := 18) rfl ?_
        refine R.iconst X13 hx (hb hby d3_18) (v := (0 : Int32)) (by decide) (pc' := 19) rfl ?_
        refine R.istore X13 hx (hb hby d3_19) (L' := #[.val (.ref a0), .val (.ref a1), .val (.ref b13), .val (.int (0 : Int32)), .val (.int (0 : Int32))]) rfl (pc' := 21) rfl ?_
        refine R.iload X13 hx (hb hby d3_21) rfl (pc' := 23) rfl ?_
        refine R.aloadN X13 hx (hb hby d3_23) rfl rfl (pc' := 24) rfl ?_
        refine R.alen X13 hx hZ e13 V_a1 (hb hby d3_24) (pc' := 25) rfl ?_
        refine R.icmpNo X13 hx (hb hby d3_25) (tlt (by decide : (0 : Int32) < (2 : Int32))).2.1 (pc' := 28) rfl ?_
        refine R.aloadN X13 hx (hb hby d3_28) rfl rfl (pc' := 29) rfl ?_
        refine R.iloadN X13 hx (hb hby d3_29) rfl (pc' := 30) rfl ?_
        refine R.iload X13 hx (hb hby d3_30) rfl (pc' := 32) rfl ?_
        refine R.iadd X13 hx (hb hby d3_32) (v := (0 : Int32)) (by decide) (pc' := 33) rfl ?_
        refine R.dup2 X13 hx (hb hby d3_33) rfl rfl (pc' := 34) rfl ?_
        refine R.daload X13 hx hZ e13 V_b13 (⟨by decide, by decide⟩ : ¬ (0 : Int32) < 0 ∧ (0 : Int32) < (3 : Int32)) (v := (.double (0 : UInt64))) (own_getH_nil _ _) (hb hby d3_34) (pc' := 35) rfl ?_
        refine R.aloadN X13 hx (hb hby d3_35) rfl rfl (pc' := 36) rfl ?_
        refine R.iloadN X13 hx (hb hby d3_36) rfl (pc' := 37) rfl ?_
        refine R.daload X13 hx hZ e13 V_a0 (⟨by decide, by decide⟩ : ¬ (0 : Int32) < 0 ∧ (0 : Int32) < (2 : Int32)) (v := (.double x0)) (r0_a0) (hb hby d3_37) (pc' := 38) rfl ?_
        refine R.aloadN X13 hx (hb hby d3_38) rfl rfl (pc' := 39) rfl ?_
        refine R.iload X13 hx (hb hby d3_39) rfl (pc' := 41) rfl ?_
        refine R.daload X13 hx hZ e13 V_a1 (⟨by decide, by decide⟩ : ¬ (0 : Int32) < 0 ∧ (0 : Int32) < (2 : Int32)) (v := (.double y0)) (r0_a1) (hb hby d3_41) (pc' := 42) rfl ?_
        refine R.dmul X13 hx (hb hby d3_42) ((Dy.mul (D0_a0) (D0_a1) ((own_ab.mul b0_a0 b0_a1).lt (by decide)) (by decide)).nn : NoNaN64 (FP.dmul x0 y0)) (pc' := 43) rfl ?_
        refine R.dadd X13 hx (hb hby d3_43) ((Dy.add own_zero (Dy.mul (D0_a0) (D0_a1) ((own_ab.mul b0_a0 b0_a1).lt (by decide)) (by decide)) ((own_ab.add own_ab0 (own_ab.mul b0_a0 b0_a1)).lt (by decide)) (by decide)).nn : NoNaN64 (FP.dadd (0 : UInt64) (FP.dmul x0 y0))) (pc' := 44) rfl ?_
        refine R.dastore X13 hx hZ e13 V_b13 (⟨by decide, by decide⟩ : ¬ (0 : Int32) < 0 ∧ (0 : Int32) < (3 : Int32)) (hb hby d3_44) (pc' := 45) rfl ?_; intro T14 h14 X14 e14 W14 V14
        have V_a0 := V_a0.other W14 ne_a0_b13
        have V_a1 := V_a1.other W14 ne_a1_b13
        have V_b13 : Arh Z h14 b13 k13 .double (3 : Int32) [((0 : Int32), (.double (FP.dadd (0 : UInt64) (FP.dmul x0 y0))))] [] (.double (0 : UInt64)) := V14
        have N14 := Fr.snoc X14 N0 g_b13
        have K14 : Keep h0 h14 [] := K13.wr W14 (Or.inr sz_b13)
        have Z14 : n0 ≤ h14.size := Nat.le_trans Z13 (Keep.of_wr W14).1
        refine R.iinc X14 hx (hb hby d3_45) rfl (L' := #[.val (.ref a0), .val (.ref a1), .val (.ref b13), .val (.int (0 : Int32)), .val (.int (1 : Int32))]) rfl (pc' := 48) rfl ?_
        refine R.goto X14 hx (hb hby d3_48) (by decide) (pc' := 21) (by decide) ?_
        refine R.iload X14 hx (hb hby d3_21) rfl (pc' := 23) rfl ?_
        refine R.aloadN X14 hx (hb hby d3_23) rfl rfl (pc' := 24) rfl ?_
        refine R.alen X14 hx hZ e14 V_a1 (hb hby d3_24) (pc' := 25) rfl ?_
        refine R.icmpNo X14 hx (hb hby d3_25) (tlt (by decide : (1 : Int32) < (2 : Int32))).2.1 (pc' := 28) rfl ?_
        refine R.aloadN X14 hx (hb hby d3_28) rfl rfl (pc' := 29) rfl ?_
        refine R.iloadN X14 hx (hb hby d3_29) rfl (pc' := 30) rfl ?_
        refine R.iload X14 hx (hb hby d3_30) rfl (pc' := 32) rfl ?_
        refine R.iadd X14 hx (hb hby d3_32) (v := (1 : Int32)) (by decide) (pc' := 33) rfl ?_
        refine R.dup2 X14 hx (hb hby d3_33) rfl rfl (pc' := 34) rfl ?_
        refine R.daload X14 hx hZ e14 V_b13 (⟨by decide, by decide⟩ : ¬ (1 : Int32) < 0 ∧ (1 : Int32) < (3 : Int32)) (v := (.double (0 : UInt64))) (getH_miss ((⟨by decide, by decide⟩ : ¬ (1 : Int32) < 0 ∧ (1 : Int32) < (3 : Int32))).1 (by decide) (own_getH_nil _ _)) (hb hby d3_34) (pc' := 35) rfl ?_
        refine R.aloadN X14 hx (hb hby d3_35) rfl rfl (pc' := 36) rfl ?_
        refine R.iloadN X14 hx (hb hby d3_36) rfl (pc' := 37) rfl ?_
        refine R.daload X14 hx hZ e14 V_a0 (⟨by decide, by decide⟩ : ¬ (0 : Int32) < 0 ∧ (0 : Int32) < (2 : Int32)) (v := (.double x0)) (r0_a0) (hb hby d3_37) (pc' := 38) rfl ?_
        refine R.aloadN X14 hx (hb hby d3_38) rfl rfl (pc' := 39) rfl ?_
        refine R.iload X14 hx (hb hby d3_39) rfl (pc' := 41) rfl ?_
        refine R.daload X14 hx hZ e14 V_a1 (⟨by decide, by decide⟩ : ¬ (1 : Int32) < 0 ∧ (1 : Int32) < (2 : Int32)) (v := (.double y1)) (r1_a1 (by decide)) (hb hby d3_41) (pc' := 42) rfl ?_
        refine R.dmul X14 hx (hb hby d3_42) ((Dy.mul (D0_a0) (D1_a1 (by decide)) ((own_ab.mul b0_a0 b1_a1).lt (by decide)) (by decide)).nn : NoNaN64 (FP.dmul x0 y1)) (pc' := 43) rfl ?_
        refine R.dadd X14 hx (hb hby d3_43) ((Dy.add own_zero (Dy.mul (D0_a0) (D1_a1 (by decide)) ((own_ab.mul b0_a0 b1_a1).lt (by decide)) (by decide)) ((own_ab.add own_ab0 (own_ab.mul b0_a0 b1_a1)).lt (by decide)) (by decide)).nn : NoNaN64 (FP.dadd (0 : UInt64) (FP.dmul x0 y1))) (pc' := 44) rfl ?_
        refine R.dastore X14 hx hZ e14 V_b13 (⟨by decide, by decide⟩ : ¬ (1 : Int32) < 0 ∧ (1 : Int32) < (3 : Int32)) (hb hby d3_44) (pc' := 45) rfl ?_; intro T15 h15 X15 e15 W15 V15
        have V_a0 := V_a0.other W15 ne_a0_b13
        have V_a1 := V_a1.other W15 ne_a1_b13
        have V_b13 : Arh Z h15 b13 k13 .double (3 : Int32) [((1 : Int32), (.double (FP.dadd (0 : UInt64) (FP.dmul x0 y1)))), ((0 : Int32), (.double (FP.dadd (0 : UInt64) (FP.dmul x0 y0))))] [] (.double (0 : UInt64)) := V15
        have N15 := Fr.snoc X15 N14 g_b13
        have K15 : Keep h0 h15 [] := K14.wr W15 (Or.inr sz_b13)
        have Z15 : n0 ≤ h15.size := Nat.le_trans Z14 (Keep.of_wr W15).1
        refine R.iinc X15 hx (hb hby d3_45) rfl (L' := #[.val (.ref a0), .val (.ref a1), .val (.ref b13), .val (.int (0 : Int32)), .val (.int (2 : Int32))]) rfl (pc' := 48) rfl ?_
        refine R.goto X15 hx (hb hby d3_48) (by decide) (pc' := 21) (by decide) ?_
        refine R.iload X15 hx (hb hby d3_21) rfl (pc' := 23) rfl ?_
        refine R.aloadN X15 hx (hb hby d3_23) rfl rfl (pc' := 24) rfl ?_
        refine R.alen X15 hx hZ e15 V_a1 (hb hby d3_24) (pc' := 25) rfl ?_
        refine R.icmpYes X15 hx (hb hby d3_25) (flt (by decide : ¬ ((2 : Int32) < (2 : Int32)))).2.1 (by decide) (pc' := 51) (by decide) ?_
        refine R.iinc X15 hx (hb hby d3_51) rfl (L' := #[.val (.ref a0), .val (.ref a1), .val (.ref b13), .val (.int (1 : Int32)), .val (.int (2 : Int32))]) rfl (pc' := 54) rfl ?_
        refine R.goto X15 hx (hb hby d3_54) (by decide) (pc' := 12) (by decide) ?_
        refine R.iloadN X15 hx (hb hby d3_12) rfl (pc' := 13) rfl ?_
        refine R.aloadN X15 hx (hb hby d3_13) rfl rfl (pc' := 14) rfl ?_
        refine R.alen X15 hx hZ e15 V_a0 (hb hby d3_14) (pc' := 15) rfl ?_
        refine R.icmpNo X15 hx (hb hby d3_15) (tlt (by decide : (1 : Int32) < (2 : Int32))).2.1 (pc' := 18) rfl ?_
        refine R.iconst X15 hx (hb hby d3_18) (v := (0 : Int32)) (by decide) (pc' := 19) rfl ?_
        refine R.istore X15 hx (hb hby d3_19) (L' := #[.val (.ref a0), .val (.ref a1), .val (.ref b13), .val (.int (1 : Int32)), .val (.int (0 : Int32))]) rfl (pc' := 21) rfl ?_
        refine R.iload X15 hx (hb hby d3_21) rfl (pc' := 23) rfl ?_
        refine R.aloadN X15 hx (hb hby d3_23) rfl rfl (pc' := 24) rfl ?_
        refine R.alen X15 hx hZ e15 V_a1 (hb hby d3_24) (pc' := 25) rfl ?_
        refine R.icmpNo X15 hx (hb hby d3_25) (tlt (by decide : (0 : Int32) < (2 : Int32))).2.1 (pc' := 28) rfl ?_
        refine R.aloadN X15 hx (hb hby d3_28) rfl rfl (pc' := 29) rfl ?_
        refine R.iloadN X15 hx (hb hby d3_29) rfl (pc' := 30) rfl ?_
        refine R.iload X15 hx (hb hby d3_30) rfl (pc' := 32) rfl ?_
        refine R.iadd X15 hx (hb hby d3_32) (v := (1 : Int32)) (by decide) (pc' := 33) rfl ?_
        refine R.dup2 X15 hx (hb hby d3_33) rfl rfl (pc' := 34) rfl ?_
        refine R.daload X15 hx hZ e15 V_b13 (⟨by decide, by decide⟩ : ¬ (1 : Int32) < 0 ∧ (1 : Int32) < (3 : Int32)) (v := (.double (FP.dadd (0 : UInt64) (FP.dmul x0 y1)))) (getH_hit ((⟨by decide, by decide⟩ : ¬ (1 : Int32) < 0 ∧ (1 : Int32) < (3 : Int32))).1 (rfl)) (hb hby d3_34) (pc' := 35) rfl ?_
        refine R.aloadN X15 hx (hb hby d3_35) rfl rfl (pc' := 36) rfl ?_
        refine R.iloadN X15 hx (hb hby d3_36) rfl (pc' := 37) rfl ?_
        refine R.daload X15 hx hZ e15 V_a0 (⟨by decide, by decide⟩ : ¬ (1 : Int32) < 0 ∧ (1 : Int32) < (2 : Int32)) (v := (.double x1)) (r1_a0 (by decide)) (hb hby d3_37) (pc' := 38) rfl ?_
        refine R.aloadN X15 hx (hb hby d3_38) rfl rfl (pc' := 39) rfl ?_
        refine R.iload X15 hx (hb hby d3_39) rfl (pc' := 41) rfl ?_
        refine R.daload X15 hx hZ e15 V_a1 (⟨by decide, by decide⟩ : ¬ (0 : Int32) < 0 ∧ (0 : Int32) < (2 : Int32)) (v := (.double y0)) (r0_a1) (hb hby d3_41) (pc' := 42) rfl ?_
        refine R.dmul X15 hx (hb hby d3_42) ((Dy.mul (D1_a0 (by decide)) (D0_a1) ((own_ab.mul b1_a0 b0_a1).lt (by decide)) (by decide)).nn : NoNaN64 (FP.dmul x1 y0)) (pc' := 43) rfl ?_
        refine R.dadd X15 hx (hb hby d3_43) ((Dy.add (Dy.add own_zero (Dy.mul (D0_a0) (D1_a1 (by decide)) ((own_ab.mul b0_a0 b1_a1).lt (by decide)) (by decide)) ((own_ab.add own_ab0 (own_ab.mul b0_a0 b1_a1)).lt (by decide)) (by decide)) (Dy.mul (D1_a0 (by decide)) (D0_a1) ((own_ab.mul b1_a0 b0_a1).lt (by decide)) (by decide)) ((own_ab.add (own_ab.add own_ab0 (own_ab.mul b0_a0 b1_a1)) (own_ab.mul b1_a0 b0_a1)).lt (by decide)) (by decide)).nn : NoNaN64 (FP.dadd (FP.dadd (0 : UInt64) (FP.dmul x0 y1)) (FP.dmul x1 y0))) (pc' := 44) rfl ?_
        refine R.dastore X15 hx hZ e15 V_b13 (⟨by decide, by decide⟩ : ¬ (1 : Int32) < 0 ∧ (1 : Int32) < (3 : Int32)) (hb hby d3_44) (pc' := 45) rfl ?_; intro T16 h16 X16 e16 W16 V16
        have V_a0 := V_a0.other W16 ne_a0_b13
        have V_a1 := V_a1.other W16 ne_a1_b13
        have V_b13 : Arh Z h16 b13 k13 .double (3 : Int32) [((1 : Int32), (.double (FP.dadd (FP.dadd (0 : UInt64) (FP.dmul x0 y1)) (FP.dmul x1 y0)))), ((1 : Int32), (.double (FP.dadd (0 : UInt64) (FP.dmul x0 y1)))), ((0 : Int32), (.double (FP.dadd (0 : UInt64) (FP.dmul x0 y0))))] [] (.double (0 : UInt64)) := V16
        have N16 := Fr.snoc X16 N15 g_b13
        have K16 : Keep h0 h16 [] := K15.wr W16 (Or.inr sz_b13)
        have Z16 : n0 ≤ h16.size := Nat.le_trans Z15 (Keep.of_wr W16).1
        refine R.iinc X16 hx (hb hby d3_45) rfl (L' := #[.val (.ref a0), .val (.ref a1), .val (.ref b13), .val (.int (1 : Int32)), .val (.int (1 : Int32))]) rfl (pc' := 48) rfl ?_
        refine R.goto X16 hx (hb hby d3_48) (by decide) (pc' := 21) (by decide) ?_
        refine R.iload X16 hx (hb hby d3_21) rfl (pc' := 23) rfl ?_
        refine R.aloadN X16 hx (hb hby d3_23) rfl rfl (pc' := 24) rfl ?_
        refine R.alen X16 hx hZ e16 V_a1 (hb hby d3_24) (pc' := 25) rfl ?_
        refine R.icmpNo X16 hx (hb hby d3_25) (tlt (by decide : (1 : Int32) < (2 : Int32))).2.1 (pc' := 28) rfl ?_
        refine R.aloadN X16 hx (hb hby d3_28) rfl rfl (pc' := 29) rfl ?_
        refine R.iloadN X16 hx (hb hby d3_29) rfl (pc' := 30) rfl ?_
        refine R.iload X16 hx (hb hby d3_30) rfl (pc' := 32) rfl ?_
        refine R.iadd X16 hx (hb hby d3_32) (v := (2 : Int32)) (by decide) (pc' := 33) rfl ?_
        refine R.dup2 X16 hx (hb hby d3_33) rfl rfl (pc' := 34) rfl ?_
        refine R.daload X16 hx hZ e16 V_b13 (⟨by decide, by decide⟩ : ¬ (2 : Int32) < 0 ∧ (2 : Int32) < (3 : Int32)) (v := (.double (0 : UInt64))) (getH_miss ((⟨by decide, by decide⟩ : ¬ (2 : Int32) < 0 ∧ (2 : Int32) < (3 : Int32))).1 (by decide) (getH_miss ((⟨by decide, by decide⟩ : ¬ (2 : Int32) < 0 ∧ (2 : Int32) < (3 : Int32))).1 (by decide) (getH_miss ((⟨by decide, by decide⟩ : ¬ (2 : Int32) < 0 ∧ (2 : Int32) < (3 : Int32))).1 (by decide) (own_getH_nil _ _)))) (hb hby d3_34) (pc' := 35) rfl ?_
        refine R.aloadN X16 hx (hb hby d3_35) rfl rfl (pc' := 36) rfl ?_
        refine R.iloadN X16 hx (hb hby d3_36) rfl (pc' := 37) rfl ?_
        refine R.daload X16 hx hZ e16 V_a0 (⟨by decide, by decide⟩ : ¬ (1 : Int32) < 0 ∧ (1 : Int32) < (2 : Int32)) (v := (.double x1)) (r1_a0 (by decide)) (hb hby d3_37) (pc' := 38) rfl ?_
        refine R.aloadN X16 hx (hb hby d3_38) rfl rfl (pc' := 39) rfl ?_
        refine R.iload X16 hx (hb hby d3_39) rfl (pc' := 41) rfl ?_
        refine R.daload X16 hx hZ e16 V_a1 (⟨by decide, by decide⟩ : ¬ (1 : Int32) < 0 ∧ (1 : Int32) < (2 : Int32)) (v := (.double y1)) (r1_a1 (by decide)) (hb hby d3_41) (pc' := 42) rfl ?_
        refine R.dmul X16 hx (hb hby d3_42) ((Dy.mul (D1_a0 (by decide)) (D1_a1 (by decide)) ((own_ab.mul b1_a0 b1_a1).lt (by decide)) (by decide)).nn : NoNaN64 (FP.dmul x1 y1)) (pc' := 43) rfl ?_
        refine R.dadd X16 hx (hb hby d3_43) ((Dy.add own_zero (Dy.mul (D1_a0 (by decide)) (D1_a1 (by decide)) ((own_ab.mul b1_a0 b1_a1).lt (by decide)) (by decide)) ((own_ab.add own_ab0 (own_ab.mul b1_a0 b1_a1)).lt (by decide)) (by decide)).nn : NoNaN64 (FP.dadd (0 : UInt64) (FP.dmul x1 y1))) (pc' := 44) rfl ?_
        refine R.dastore X16 hx hZ e16 V_b13 (⟨by decide, by decide⟩ : ¬ (2 : Int32) < 0 ∧ (2 : Int32) < (3 : Int32)) (hb hby d3_44) (pc' := 45) rfl ?_; intro T17 h17 X17 e17 W17 V17
        have V_a0 := V_a0.other W17 ne_a0_b13
        have V_a1 := V_a1.other W17 ne_a1_b13
        have V_b13 : Arh Z h17 b13 k13 .double (3 : Int32) [((2 : Int32), (.double (FP.dadd (0 : UInt64) (FP.dmul x1 y1)))), ((1 : Int32), (.double (FP.dadd (FP.dadd (0 : UInt64) (FP.dmul x0 y1)) (FP.dmul x1 y0)))), ((1 : Int32), (.double (FP.dadd (0 : UInt64) (FP.dmul x0 y1)))), ((0 : Int32), (.double (FP.dadd (0 : UInt64) (FP.dmul x0 y0))))] [] (.double (0 : UInt64)) := V17
        have N17 := Fr.snoc X17 N16 g_b13
        have K17 : Keep h0 h17 [] := K16.wr W17 (Or.inr sz_b13)
        have Z17 : n0 ≤ h17.size := Nat.le_trans Z16 (Keep.of_wr W17).1
        refine R.iinc X17 hx (hb hby d3_45) rfl (L' := #[.val (.ref a0), .val (.ref a1), .val (.ref b13), .val (.int (1 : Int32)), .val (.int (2 : Int32))]) rfl (pc' := 48) rfl ?_
        refine R.goto X17 hx (hb hby d3_48) (by decide) (pc' := 21) (by decide) ?_
        refine R.iload X17 hx (hb hby d3_21) rfl (pc' := 23) rfl ?_
        refine R.aloadN X17 hx (hb hby d3_23) rfl rfl (pc' := 24) rfl ?_
        refine R.alen X17 hx hZ e17 V_a1 (hb hby d3_24) (pc' := 25) rfl ?_
        refine R.icmpYes X17 hx (hb hby d3_25) (flt (by decide : ¬ ((2 : Int32) < (2 : Int32)))).2.1 (by decide) (pc' := 51) (by decide) ?_
        refine R.iinc X17 hx (hb hby d3_51) rfl (L' := #[.val (.ref a0), .val (.ref a1), .val (.ref b13), .val (.int (2 : Int32)), .val (.int (2 : Int32))]) rfl (pc' := 54) rfl ?_
        refine R.goto X17 hx (hb hby d3_54) (by decide) (pc' := 12) (by decide) ?_
        refine R.iloadN X17 hx (hb hby d3_12) rfl (pc' := 13) rfl ?_
        refine R.aloadN X17 hx (hb hby d3_13) rfl rfl (pc' := 14) rfl ?_
        refine R.alen X17 hx hZ e17 V_a0 (hb hby d3_14) (pc' := 15) rfl ?_
        refine R.icmpYes X17 hx (hb hby d3_15) (flt (by decide : ¬ ((2 : Int32) < (2 : Int32)))).2.1 (by decide) (pc' := 57) (by decide) ?_
        refine R.aloadN X17 hx (hb hby d3_57) rfl rfl (pc' := 58) rfl ?_
        rw [← hG]
        exact Rn.ret X17 (BodyLoose.notSynchronized Bd) (v := some (.ref b13)) (fun h => by rw [Bd.returns] at h; cases h) (Q := Q3 Z a0 a1 ka kb (2 : Int32) (2 : Int32) ha hbb x0 x1 x2 y0 y1 y2 A0 A1 A2 B0 B1 B2 h0 n0) e17 (fun fs hr => retOut X17 hx (t := (.array .double)) Bd.returns rfl (Or.inr (Or.inr (Or.inr (Or.inr ⟨rfl, rfl, rfl⟩)))) (hb hby d3_58) hr) ⟨b13, k13, [((2 : Int32), (.double (FP.dadd (0 : UInt64) (FP.dmul x1 y1)))), ((1 : Int32), (.double (FP.dadd (FP.dadd (0 : UInt64) (FP.dmul x0 y1)) (FP.dmul x1 y0)))), ((1 : Int32), (.double (FP.dadd (0 : UInt64) (FP.dmul x0 y1)))), ((0 : Int32), (.double (FP.dadd (0 : UInt64) (FP.dmul x0 y0))))], rfl, N17, K17, sz_b13, V_b13, (fun _ => ⟨_, getH_miss (by decide) (by decide) (getH_miss (by decide) (by decide) (getH_miss (by decide) (by decide) (getH_hit (by decide) (rfl)))), Dy.cast (Dy.add own_zero (Dy.mul (D0_a0) (D0_a1) ((own_ab.mul b0_a0 b0_a1).lt (by decide)) (by decide)) ((own_ab.add own_ab0 (own_ab.mul b0_a0 b0_a1)).lt (by decide)) (by decide)) (by first | omega | (simp only [z2_a0 (by decide), z2_a1 (by decide)]; omega)) rfl⟩), (fun _ => ⟨_, getH_miss (by decide) (by decide) (getH_hit (by decide) (rfl)), Dy.cast (Dy.add (Dy.add own_zero (Dy.mul (D0_a0) (D1_a1 (by decide)) ((own_ab.mul b0_a0 b1_a1).lt (by decide)) (by decide)) ((own_ab.add own_ab0 (own_ab.mul b0_a0 b1_a1)).lt (by decide)) (by decide)) (Dy.mul (D1_a0 (by decide)) (D0_a1) ((own_ab.mul b1_a0 b0_a1).lt (by decide)) (by decide)) ((own_ab.add (own_ab.add own_ab0 (own_ab.mul b0_a0 b1_a1)) (own_ab.mul b1_a0 b0_a1)).lt (by decide)) (by decide)) (by first | omega | (simp only [z2_a0 (by decide), z2_a1 (by decide)]; omega)) rfl⟩), (fun _ => ⟨_, getH_hit (by decide) (rfl), Dy.cast (Dy.add own_zero (Dy.mul (D1_a0 (by decide)) (D1_a1 (by decide)) ((own_ab.mul b1_a0 b1_a1).lt (by decide)) (by decide)) ((own_ab.add own_ab0 (own_ab.mul b1_a0 b1_a1)).lt (by decide)) (by decide)) (by first | omega | (simp only [z2_a0 (by decide), z2_a1 (by decide)]; omega)) rfl⟩), (fun q => absurd q (by decide)), (fun q => absurd q (by decide))⟩ (by decide) (by decide)
      · refine R.aloadN X0 hx (hb hby d3_0) rfl rfl (pc' := 1) rfl ?_
        refine R.alen X0 hx hZ e0 V_a0 (hb hby d3_1) (pc' := 2) rfl ?_
        refine R.aloadN X0 hx (hb hby d3_2) rfl rfl (pc' := 3) rfl ?_
        refine R.alen X0 hx hZ e0 V_a1 (hb hby d3_3) (pc' := 4) rfl ?_
        refine R.iadd X0 hx (hb hby d3_4) (v := (5 : Int32)) (by decide) (pc' := 5) rfl ?_
        refine R.iconst X0 hx (hb hby d3_5) (v := (1 : Int32)) (by decide) (pc' := 6) rfl ?_
        refine R.isub X0 hx (hb hby d3_6) (v := (4 : Int32)) (by decide) (pc' := 7) rfl ?_
        refine R.newP X0 hx hZ (ty := .double) rfl w_7 e0 (by decide) (cap := 4) (by decide) (by decide) (ad := "[D") (by decide) (hb hby d3_7) (pc' := 9) rfl (by decide) (by decide) ?_; intro T18 h18 b18 k18 g18 X18 e18 E18 EE18 AA18
        have g_b18 : n0 ≤ b18 := Nat.le_trans Z0 (Nat.le_of_eq g18.symm)
        have sz_b18 : h0.size ≤ b18 := Nat.le_trans K0.1 (Nat.le_of_eq g18.symm)
        have ne_a0_b18 : a0 ≠ b18 := Nat.ne_of_lt (Nat.lt_of_lt_of_le V_a0.lt (Nat.le_of_eq g18.symm))
        have ne_a1_b18 : a1 ≠ b18 := Nat.ne_of_lt (Nat.lt_of_lt_of_le V_a1.lt (Nat.le_of_eq g18.symm))
        have K18 : Keep h0 h18 [] := K0.ext E18
        have Z18 : n0 ≤ h18.size := Nat.le_trans Z0 E18.1
        have V_a0 := V_a0.ext E18
        have V_a1 := V_a1.ext E18
        have V_b18 : Arh Z h18 b18 k18 .double (4 : Int32) [] [] (.double (0 : UInt64)) := AA18
        refine R.astoreN X18 hx (hb hby d3_9) rfl (L' := #[.val (.ref a0), .val (.ref a1), .val (.ref b18), .unset, .unset]) rfl (pc' := 10) rfl ?_
        refine R.iconst X18 hx (hb hby d3_10) (v := (0 : Int32)) (by decide) (pc' := 11) rfl ?_
        refine R.istoreN X18 hx (hb hby d3_11) (L' := #[.val (.ref a0), .val (.ref a1), .val (.ref b18), .val (.int (0 : Int32)), .unset]) rfl (pc' := 12) rfl ?_
        refine R.iloadN X18 hx (hb hby d3_12) rfl (pc' := 13) rfl ?_
        refine R.aloadN X18 hx (hb hby d3_13) rfl rfl (pc' := 14) rfl ?_
        refine R.alen X18 hx hZ e18 V_a0 (hb hby d3_14) (pc' := 15) rfl ?_
        refine R.icmpNo X18 hx (hb hby d3_15) (tlt (by decide : (0 : Int32) < (2 : Int32))).2.1 (pc' := 18) rfl ?_
        refine R.iconst X18 hx (hb hby d3_18) (v := (0 : Int32)) (by decide) (pc' := 19) rfl ?_
        refine R.istore X18 hx (hb hby d3_19) (L' := #[.val (.ref a0), .val (.ref a1), .val (.ref b18), .val (.int (0 : Int32)), .val (.int (0 : Int32))]) rfl (pc' := 21) rfl ?_
        refine R.iload X18 hx (hb hby d3_21) rfl (pc' := 23) rfl ?_
        refine R.aloadN X18 hx (hb hby d3_23) rfl rfl (pc' := 24) rfl ?_
        refine R.alen X18 hx hZ e18 V_a1 (hb hby d3_24) (pc' := 25) rfl ?_
        refine R.icmpNo X18 hx (hb hby d3_25) (tlt (by decide : (0 : Int32) < (3 : Int32))).2.1 (pc' := 28) rfl ?_
        refine R.aloadN X18 hx (hb hby d3_28) rfl rfl (pc' := 29) rfl ?_
        refine R.iloadN X18 hx (hb hby d3_29) rfl (pc' := 30) rfl ?_
        refine R.iload X18 hx (hb hby d3_30) rfl (pc' := 32) rfl ?_
        refine R.iadd X18 hx (hb hby d3_32) (v := (0 : Int32)) (by decide) (pc' := 33) rfl ?_
        refine R.dup2 X18 hx (hb hby d3_33) rfl rfl (pc' := 34) rfl ?_
        refine R.daload X18 hx hZ e18 V_b18 (⟨by decide, by decide⟩ : ¬ (0 : Int32) < 0 ∧ (0 : Int32) < (4 : Int32)) (v := (.double (0 : UInt64))) (own_getH_nil _ _) (hb hby d3_34) (pc' := 35) rfl ?_
        refine R.aloadN X18 hx (hb hby d3_35) rfl rfl (pc' := 36) rfl ?_
        refine R.iloadN X18 hx (hb hby d3_36) rfl (pc' := 37) rfl ?_
        refine R.daload X18 hx hZ e18 V_a0 (⟨by decide, by decide⟩ : ¬ (0 : Int32) < 0 ∧ (0 : Int32) < (2 : Int32)) (v := (.double x0)) (r0_a0) (hb hby d3_37) (pc' := 38) rfl ?_
        refine R.aloadN X18 hx (hb hby d3_38) rfl rfl (pc' := 39) rfl ?_
        refine R.iload X18 hx (hb hby d3_39) rfl (pc' := 41) rfl ?_
        refine R.daload X18 hx hZ e18 V_a1 (⟨by decide, by decide⟩ : ¬ (0 : Int32) < 0 ∧ (0 : Int32) < (3 : Int32)) (v := (.double y0)) (r0_a1) (hb hby d3_41) (pc' := 42) rfl ?_
        refine R.dmul X18 hx (hb hby d3_42) ((Dy.mul (D0_a0) (D0_a1) ((own_ab.mul b0_a0 b0_a1).lt (by decide)) (by decide)).nn : NoNaN64 (FP.dmul x0 y0)) (pc' := 43) rfl ?_
        refine R.dadd X18 hx (hb hby d3_43) ((Dy.add own_zero (Dy.mul (D0_a0) (D0_a1) ((own_ab.mul b0_a0 b0_a1).lt (by decide)) (by decide)) ((own_ab.add own_ab0 (own_ab.mul b0_a0 b0_a1)).lt (by decide)) (by decide)).nn : NoNaN64 (FP.dadd (0 : UInt64) (FP.dmul x0 y0))) (pc' := 44) rfl ?_
        refine R.dastore X18 hx hZ e18 V_b18 (⟨by decide, by decide⟩ : ¬ (0 : Int32) < 0 ∧ (0 : Int32) < (4 : Int32)) (hb hby d3_44) (pc' := 45) rfl ?_; intro T19 h19 X19 e19 W19 V19
        have V_a0 := V_a0.other W19 ne_a0_b18
        have V_a1 := V_a1.other W19 ne_a1_b18
        have V_b18 : Arh Z h19 b18 k18 .double (4 : Int32) [((0 : Int32), (.double (FP.dadd (0 : UInt64) (FP.dmul x0 y0))))] [] (.double (0 : UInt64)) := V19
        have N19 := Fr.snoc X19 N0 g_b18
        have K19 : Keep h0 h19 [] := K18.wr W19 (Or.inr sz_b18)
        have Z19 : n0 ≤ h19.size := Nat.le_trans Z18 (Keep.of_wr W19).1
        refine R.iinc X19 hx (hb hby d3_45) rfl (L' := #[.val (.ref a0), .val (.ref a1), .val (.ref b18), .val (.int (0 : Int32)), .val (.int (1 : Int32))]) rfl (pc' := 48) rfl ?_
        refine R.goto X19 hx (hb hby d3_48) (by decide) (pc' := 21) (by decide) ?_
        refine R.iload X19 hx (hb hby d3_21) rfl (pc' := 23) rfl ?_
        refine R.aloadN X19 hx (hb hby d3_23) rfl rfl (pc' := 24) rfl ?_
        refine R.alen X19 hx hZ e19 V_a1 (hb hby d3_24) (pc' := 25) rfl ?_
        refine R.icmpNo X19 hx (hb hby d3_25) (tlt (by decide : (1 : Int32) < (3 : Int32))).2.1 (pc' := 28) rfl ?_
        refine R.aloadN X19 hx (hb hby d3_28) rfl rfl (pc' := 29) rfl ?_
        refine R.iloadN X19 hx (hb hby d3_29) rfl (pc' := 30) rfl ?_
        refine R.iload X19 hx (hb hby d3_30) rfl (pc' := 32) rfl ?_
        refine R.iadd X19 hx (hb hby d3_32) (v := (1 : Int32)) (by decide) (pc' := 33) rfl ?_
        refine R.dup2 X19 hx (hb hby d3_33) rfl rfl (pc' := 34) rfl ?_
        refine R.daload X19 hx hZ e19 V_b18 (⟨by decide, by decide⟩ : ¬ (1 : Int32) < 0 ∧ (1 : Int32) < (4 : Int32)) (v := (.double (0 : UInt64))) (getH_miss ((⟨by decide, by decide⟩ : ¬ (1 : Int32) < 0 ∧ (1 : Int32) < (4 : Int32))).1 (by decide) (own_getH_nil _ _)) (hb hby d3_34) (pc' := 35) rfl ?_
        refine R.aloadN X19 hx (hb hby d3_35) rfl rfl (pc' := 36) rfl ?_
        refine R.iloadN X19 hx (hb hby d3_36) rfl (pc' := 37) rfl ?_
        refine R.daload X19 hx hZ e19 V_a0 (⟨by decide, by decide⟩ : ¬ (0 : Int32) < 0 ∧ (0 : Int32) < (2 : Int32)) (v := (.double x0)) (r0_a0) (hb hby d3_37) (pc' := 38) rfl ?_
        refine R.aloadN X19 hx (hb hby d3_38) rfl rfl (pc' := 39) rfl ?_
        refine R.iload X19 hx (hb hby d3_39) rfl (pc' := 41) rfl ?_
        refine R.daload X19 hx hZ e19 V_a1 (⟨by decide, by decide⟩ : ¬ (1 : Int32) < 0 ∧ (1 : Int32) < (3 : Int32)) (v := (.double y1)) (r1_a1 (by decide)) (hb hby d3_41) (pc' := 42) rfl ?_
        refine R.dmul X19 hx (hb hby d3_42) ((Dy.mul (D0_a0) (D1_a1 (by decide)) ((own_ab.mul b0_a0 b1_a1).lt (by decide)) (by decide)).nn : NoNaN64 (FP.dmul x0 y1)) (pc' := 43) rfl ?_
        refine R.dadd X19 hx (hb hby d3_43) ((Dy.add own_zero (Dy.mul (D0_a0) (D1_a1 (by decide)) ((own_ab.mul b0_a0 b1_a1).lt (by decide)) (by decide)) ((own_ab.add own_ab0 (own_ab.mul b0_a0 b1_a1)).lt (by decide)) (by decide)).nn : NoNaN64 (FP.dadd (0 : UInt64) (FP.dmul x0 y1))) (pc' := 44) rfl ?_
        refine R.dastore X19 hx hZ e19 V_b18 (⟨by decide, by decide⟩ : ¬ (1 : Int32) < 0 ∧ (1 : Int32) < (4 : Int32)) (hb hby d3_44) (pc' := 45) rfl ?_; intro T20 h20 X20 e20 W20 V20
        have V_a0 := V_a0.other W20 ne_a0_b18
        have V_a1 := V_a1.other W20 ne_a1_b18
        have V_b18 : Arh Z h20 b18 k18 .double (4 : Int32) [((1 : Int32), (.double (FP.dadd (0 : UInt64) (FP.dmul x0 y1)))), ((0 : Int32), (.double (FP.dadd (0 : UInt64) (FP.dmul x0 y0))))] [] (.double (0 : UInt64)) := V20
        have N20 := Fr.snoc X20 N19 g_b18
        have K20 : Keep h0 h20 [] := K19.wr W20 (Or.inr sz_b18)
        have Z20 : n0 ≤ h20.size := Nat.le_trans Z19 (Keep.of_wr W20).1
        refine R.iinc X20 hx (hb hby d3_45) rfl (L' := #[.val (.ref a0), .val (.ref a1), .val (.ref b18), .val (.int (0 : Int32)), .val (.int (2 : Int32))]) rfl (pc' := 48) rfl ?_
        refine R.goto X20 hx (hb hby d3_48) (by decide) (pc' := 21) (by decide) ?_
        refine R.iload X20 hx (hb hby d3_21) rfl (pc' := 23) rfl ?_
        refine R.aloadN X20 hx (hb hby d3_23) rfl rfl (pc' := 24) rfl ?_
        refine R.alen X20 hx hZ e20 V_a1 (hb hby d3_24) (pc' := 25) rfl ?_
        refine R.icmpNo X20 hx (hb hby d3_25) (tlt (by decide : (2 : Int32) < (3 : Int32))).2.1 (pc' := 28) rfl ?_
        refine R.aloadN X20 hx (hb hby d3_28) rfl rfl (pc' := 29) rfl ?_
        refine R.iloadN X20 hx (hb hby d3_29) rfl (pc' := 30) rfl ?_
        refine R.iload X20 hx (hb hby d3_30) rfl (pc' := 32) rfl ?_
        refine R.iadd X20 hx (hb hby d3_32) (v := (2 : Int32)) (by decide) (pc' := 33) rfl ?_
        refine R.dup2 X20 hx (hb hby d3_33) rfl rfl (pc' := 34) rfl ?_
        refine R.daload X20 hx hZ e20 V_b18 (⟨by decide, by decide⟩ : ¬ (2 : Int32) < 0 ∧ (2 : Int32) < (4 : Int32)) (v := (.double (0 : UInt64))) (getH_miss ((⟨by decide, by decide⟩ : ¬ (2 : Int32) < 0 ∧ (2 : Int32) < (4 : Int32))).1 (by decide) (getH_miss ((⟨by decide, by decide⟩ : ¬ (2 : Int32) < 0 ∧ (2 : Int32) < (4 : Int32))).1 (by decide) (own_getH_nil _ _))) (hb hby d3_34) (pc' := 35) rfl ?_
        refine R.aloadN X20 hx (hb hby d3_35) rfl rfl (pc' := 36) rfl ?_
        refine R.iloadN X20 hx (hb hby d3_36) rfl (pc' := 37) rfl ?_
        refine R.daload X20 hx hZ e20 V_a0 (⟨by decide, by decide⟩ : ¬ (0 : Int32) < 0 ∧ (0 : Int32) < (2 : Int32)) (v := (.double x0)) (r0_a0) (hb hby d3_37) (pc' := 38) rfl ?_
        refine R.aloadN X20 hx (hb hby d3_38) rfl rfl (pc' := 39) rfl ?_
        refine R.iload X20 hx (hb hby d3_39) rfl (pc' := 41) rfl ?_
        refine R.daload X20 hx hZ e20 V_a1 (⟨by decide, by decide⟩ : ¬ (2 : Int32) < 0 ∧ (2 : Int32) < (3 : Int32)) (v := (.double y2)) (r2_a1 (by decide)) (hb hby d3_41) (pc' := 42) rfl ?_
        refine R.dmul X20 hx (hb hby d3_42) ((Dy.mul (D0_a0) (D2_a1 (by decide)) ((own_ab.mul b0_a0 b2_a1).lt (by decide)) (by decide)).nn : NoNaN64 (FP.dmul x0 y2)) (pc' := 43) rfl ?_
        refine R.dadd X20 hx (hb hby d3_43) ((Dy.add own_zero (Dy.mul (D0_a0) (D2_a1 (by decide)) ((own_ab.mul b0_a0 b2_a1).lt (by decide)) (by decide)) ((own_ab.add own_ab0 (own_ab.mul b0_a0 b2_a1)).lt (by decide)) (by decide)).nn : NoNaN64 (FP.dadd (0 : UInt64) (FP.dmul x0 y2))) (pc' := 44) rfl ?_
        refine R.dastore X20 hx hZ e20 V_b18 (⟨by decide, by decide⟩ : ¬ (2 : Int32) < 0 ∧ (2 : Int32) < (4 : Int32)) (hb hby d3_44) (pc' := 45) rfl ?_; intro T21 h21 X21 e21 W21 V21
        have V_a0 := V_a0.other W21 ne_a0_b18
        have V_a1 := V_a1.other W21 ne_a1_b18
        have V_b18 : Arh Z h21 b18 k18 .double (4 : Int32) [((2 : Int32), (.double (FP.dadd (0 : UInt64) (FP.dmul x0 y2)))), ((1 : Int32), (.double (FP.dadd (0 : UInt64) (FP.dmul x0 y1)))), ((0 : Int32), (.double (FP.dadd (0 : UInt64) (FP.dmul x0 y0))))] [] (.double (0 : UInt64)) := V21
        have N21 := Fr.snoc X21 N20 g_b18
        have K21 : Keep h0 h21 [] := K20.wr W21 (Or.inr sz_b18)
        have Z21 : n0 ≤ h21.size := Nat.le_trans Z20 (Keep.of_wr W21).1
        refine R.iinc X21 hx (hb hby d3_45) rfl (L' := #[.val (.ref a0), .val (.ref a1), .val (.ref b18), .val (.int (0 : Int32)), .val (.int (3 : Int32))]) rfl (pc' := 48) rfl ?_
        refine R.goto X21 hx (hb hby d3_48) (by decide) (pc' := 21) (by decide) ?_
        refine R.iload X21 hx (hb hby d3_21) rfl (pc' := 23) rfl ?_
        refine R.aloadN X21 hx (hb hby d3_23) rfl rfl (pc' := 24) rfl ?_
        refine R.alen X21 hx hZ e21 V_a1 (hb hby d3_24) (pc' := 25) rfl ?_
        refine R.icmpYes X21 hx (hb hby d3_25) (flt (by decide : ¬ ((3 : Int32) < (3 : Int32)))).2.1 (by decide) (pc' := 51) (by decide) ?_
        refine R.iinc X21 hx (hb hby d3_51) rfl (L' := #[.val (.ref a0), .val (.ref a1), .val (.ref b18), .val (.int (1 : Int32)), .val (.int (3 : Int32))]) rfl (pc' := 54) rfl ?_
        refine R.goto X21 hx (hb hby d3_54) (by decide) (pc' := 12) (by decide) ?_
        refine R.iloadN X21 hx (hb hby d3_12) rfl (pc' := 13) rfl ?_
        refine R.aloadN X21 hx (hb hby d3_13) rfl rfl (pc' := 14) rfl ?_
        refine R.alen X21 hx hZ e21 V_a0 (hb hby d3_14) (pc' := 15) rfl ?_
        refine R.icmpNo X21 hx (hb hby d3_15) (tlt (by decide : (1 : Int32) < (2 : Int32))).2.1 (pc' := 18) rfl ?_
        refine R.iconst X21 hx (hb hby d3_18) (v := (0 : Int32)) (by decide) (pc' := 19) rfl ?_
        refine R.istore X21 hx (hb hby d3_19) (L' := #[.val (.ref a0), .val (.ref a1), .val (.ref b18), .val (.int (1 : Int32)), .val (.int (0 : Int32))]) rfl (pc' := 21) rfl ?_
        refine R.iload X21 hx (hb hby d3_21) rfl (pc' := 23) rfl ?_
        refine R.aloadN X21 hx (hb hby d3_23) rfl rfl (pc' := 24) rfl ?_
        refine R.alen X21 hx hZ e21 V_a1 (hb hby d3_24) (pc' := 25) rfl ?_
        refine R.icmpNo X21 hx (hb hby d3_25) (tlt (by decide : (0 : Int32) < (3 : Int32))).2.1 (pc' := 28) rfl ?_
        refine R.aloadN X21 hx (hb hby d3_28) rfl rfl (pc' := 29) rfl ?_
        refine R.iloadN X21 hx (hb hby d3_29) rfl (pc' := 30) rfl ?_
        refine R.iload X21 hx (hb hby d3_30) rfl (pc' := 32) rfl ?_
        refine R.iadd X21 hx (hb hby d3_32) (v := (1 : Int32)) (by decide) (pc' := 33) rfl ?_
        refine R.dup2 X21 hx (hb hby d3_33) rfl rfl (pc' := 34) rfl ?_
        refine R.daload X21 hx hZ e21 V_b18 (⟨by decide, by decide⟩ : ¬ (1 : Int32) < 0 ∧ (1 : Int32) < (4 : Int32)) (v := (.double (FP.dadd (0 : UInt64) (FP.dmul x0 y1)))) (getH_miss ((⟨by decide, by decide⟩ : ¬ (1 : Int32) < 0 ∧ (1 : Int32) < (4 : Int32))).1 (by decide) (getH_hit ((⟨by decide, by decide⟩ : ¬ (1 : Int32) < 0 ∧ (1 : Int32) < (4 : Int32))).1 (rfl))) (hb hby d3_34) (pc' := 35) rfl ?_
        refine R.aloadN X21 hx (hb hby d3_35) rfl rfl (pc' := 36) rfl ?_
        refine R.iloadN X21 hx (hb hby d3_36) rfl (pc' := 37) rfl ?_
        refine R.daload X21 hx hZ e21 V_a0 (⟨by decide, by decide⟩ : ¬ (1 : Int32) < 0 ∧ (1 : Int32) < (2 : Int32)) (v := (.double x1)) (r1_a0 (by decide)) (hb hby d3_37) (pc' := 38) rfl ?_
        refine R.aloadN X21 hx (hb hby d3_38) rfl rfl (pc' := 39) rfl ?_
        refine R.iload X21 hx (hb hby d3_39) rfl (pc' := 41) rfl ?_
        refine R.daload X21 hx hZ e21 V_a1 (⟨by decide, by decide⟩ : ¬ (0 : Int32) < 0 ∧ (0 : Int32) < (3 : Int32)) (v := (.double y0)) (r0_a1) (hb hby d3_41) (pc' := 42) rfl ?_
        refine R.dmul X21 hx (hb hby d3_42) ((Dy.mul (D1_a0 (by decide)) (D0_a1) ((own_ab.mul b1_a0 b0_a1).lt (by decide)) (by decide)).nn : NoNaN64 (FP.dmul x1 y0)) (pc' := 43) rfl ?_
        refine R.dadd X21 hx (hb hby d3_43) ((Dy.add (Dy.add own_zero (Dy.mul (D0_a0) (D1_a1 (by decide)) ((own_ab.mul b0_a0 b1_a1).lt (by decide)) (by decide)) ((own_ab.add own_ab0 (own_ab.mul b0_a0 b1_a1)).lt (by decide)) (by decide)) (Dy.mul (D1_a0 (by decide)) (D0_a1) ((own_ab.mul b1_a0 b0_a1).lt (by decide)) (by decide)) ((own_ab.add (own_ab.add own_ab0 (own_ab.mul b0_a0 b1_a1)) (own_ab.mul b1_a0 b0_a1)).lt (by decide)) (by decide)).nn : NoNaN64 (FP.dadd (FP.dadd (0 : UInt64) (FP.dmul x0 y1)) (FP.dmul x1 y0))) (pc' := 44) rfl ?_
        refine R.dastore X21 hx hZ e21 V_b18 (⟨by decide, by decide⟩ : ¬ (1 : Int32) < 0 ∧ (1 : Int32) < (4 : Int32)) (hb hby d3_44) (pc' := 45) rfl ?_; intro T22 h22 X22 e22 W22 V22
        have V_a0 := V_a0.other W22 ne_a0_b18
        have V_a1 := V_a1.other W22 ne_a1_b18
        have V_b18 : Arh Z h22 b18 k18 .double (4 : Int32) [((1 : Int32), (.double (FP.dadd (FP.dadd (0 : UInt64) (FP.dmul x0 y1)) (FP.dmul x1 y0)))), ((2 : Int32), (.double (FP.dadd (0 : UInt64) (FP.dmul x0 y2)))), ((1 : Int32), (.double (FP.dadd (0 : UInt64) (FP.dmul x0 y1)))), ((0 : Int32), (.double (FP.dadd (0 : UInt64) (FP.dmul x0 y0))))] [] (.double (0 : UInt64)) := V22
        have N22 := Fr.snoc X22 N21 g_b18
        have K22 : Keep h0 h22 [] := K21.wr W22 (Or.inr sz_b18)
        have Z22 : n0 ≤ h22.size := Nat.le_trans Z21 (Keep.of_wr W22).1
        refine R.iinc X22 hx (hb hby d3_45) rfl (L' := #[.val (.ref a0), .val (.ref a1), .val (.ref b18), .val (.int (1 : Int32)), .val (.int (1 : Int32))]) rfl (pc' := 48) rfl ?_
        refine R.goto X22 hx (hb hby d3_48) (by decide) (pc' := 21) (by decide) ?_
        refine R.iload X22 hx (hb hby d3_21) rfl (pc' := 23) rfl ?_
        refine R.aloadN X22 hx (hb hby d3_23) rfl rfl (pc' := 24) rfl ?_
        refine R.alen X22 hx hZ e22 V_a1 (hb hby d3_24) (pc' := 25) rfl ?_
        refine R.icmpNo X22 hx (hb hby d3_25) (tlt (by decide : (1 : Int32) < (3 : Int32))).2.1 (pc' := 28) rfl ?_
        refine R.aloadN X22 hx (hb hby d3_28) rfl rfl (pc' := 29) rfl ?_
        refine R.iloadN X22 hx (hb hby d3_29) rfl (pc' := 30) rfl ?_
        refine R.iload X22 hx (hb hby d3_30) rfl (pc' := 32) rfl ?_
        refine R.iadd X22 hx (hb hby d3_32) (v := (2 : Int32)) (by decide) (pc' := 33) rfl ?_
        refine R.dup2 X22 hx (hb hby d3_33) rfl rfl (pc' := 34) rfl ?_
        refine R.daload X22 hx hZ e22 V_b18 (⟨by decide, by decide⟩ : ¬ (2 : Int32) < 0 ∧ (2 : Int32) < (4 : Int32)) (v := (.double (FP.dadd (0 : UInt64) (FP.dmul x0 y2)))) (getH_miss ((⟨by decide, by decide⟩ : ¬ (2 : Int32) < 0 ∧ (2 : Int32) < (4 : Int32))).1 (by decide) (getH_hit ((⟨by decide, by decide⟩ : ¬ (2 : Int32) < 0 ∧ (2 : Int32) < (4 : Int32))).1 (rfl))) (hb hby d3_34) (pc' := 35) rfl ?_
        refine R.aloadN X22 hx (hb hby d3_35) rfl rfl (pc' := 36) rfl ?_
        refine R.iloadN X22 hx (hb hby d3_36) rfl (pc' := 37) rfl ?_
        refine R.daload X22 hx hZ e22 V_a0 (⟨by decide, by decide⟩ : ¬ (1 : Int32) < 0 ∧ (1 : Int32) < (2 : Int32)) (v := (.double x1)) (r1_a0 (by decide)) (hb hby d3_37) (pc' := 38) rfl ?_
        refine R.aloadN X22 hx (hb hby d3_38) rfl rfl (pc' := 39) rfl ?_
        refine R.iload X22 hx (hb hby d3_39) rfl (pc' := 41) rfl ?_
        refine R.daload X22 hx hZ e22 V_a1 (⟨by decide, by decide⟩ : ¬ (1 : Int32) < 0 ∧ (1 : Int32) < (3 : Int32)) (v := (.double y1)) (r1_a1 (by decide)) (hb hby d3_41) (pc' := 42) rfl ?_
        refine R.dmul X22 hx (hb hby d3_42) ((Dy.mul (D1_a0 (by decide)) (D1_a1 (by decide)) ((own_ab.mul b1_a0 b1_a1).lt (by decide)) (by decide)).nn : NoNaN64 (FP.dmul x1 y1)) (pc' := 43) rfl ?_
        refine R.dadd X22 hx (hb hby d3_43) ((Dy.add (Dy.add own_zero (Dy.mul (D0_a0) (D2_a1 (by decide)) ((own_ab.mul b0_a0 b2_a1).lt (by decide)) (by decide)) ((own_ab.add own_ab0 (own_ab.mul b0_a0 b2_a1)).lt (by decide)) (by decide)) (Dy.mul (D1_a0 (by decide)) (D1_a1 (by decide)) ((own_ab.mul b1_a0 b1_a1).lt (by decide)) (by decide)) ((own_ab.add (own_ab.add own_ab0 (own_ab.mul b0_a0 b2_a1)) (own_ab.mul b1_a0 b1_a1)).lt (by decide)) (by decide)).nn : NoNaN64 (FP.dadd (FP.dadd (0 : UInt64) (FP.dmul x0 y2)) (FP.dmul x1 y1))) (pc' := 44) rfl ?_
        refine R.dastore X22 hx hZ e22 V_b18 (⟨by decide, by decide⟩ : ¬ (2 : Int32) < 0 ∧ (2 : Int32) < (4 : Int32)) (hb hby d3_44) (pc' := 45) rfl ?_; intro T23 h23 X23 e23 W23 V23
        have V_a0 := V_a0.other W23 ne_a0_b18
        have V_a1 := V_a1.other W23 ne_a1_b18
        have V_b18 : Arh Z h23 b18 k18 .double (4 : Int32) [((2 : Int32), (.double (FP.dadd (FP.dadd (0 : UInt64) (FP.dmul x0 y2)) (FP.dmul x1 y1)))), ((1 : Int32), (.double (FP.dadd (FP.dadd (0 : UInt64) (FP.dmul x0 y1)) (FP.dmul x1 y0)))), ((2 : Int32), (.double (FP.dadd (0 : UInt64) (FP.dmul x0 y2)))), ((1 : Int32), (.double (FP.dadd (0 : UInt64) (FP.dmul x0 y1)))), ((0 : Int32), (.double (FP.dadd (0 : UInt64) (FP.dmul x0 y0))))] [] (.double (0 : UInt64)) := V23
        have N23 := Fr.snoc X23 N22 g_b18
        have K23 : Keep h0 h23 [] := K22.wr W23 (Or.inr sz_b18)
        have Z23 : n0 ≤ h23.size := Nat.le_trans Z22 (Keep.of_wr W23).1
        refine R.iinc X23 hx (hb hby d3_45) rfl (L' := #[.val (.ref a0), .val (.ref a1), .val (.ref b18), .val (.int (1 : Int32)), .val (.int (2 : Int32))]) rfl (pc' := 48) rfl ?_
        refine R.goto X23 hx (hb hby d3_48) (by decide) (pc' := 21) (by decide) ?_
        refine R.iload X23 hx (hb hby d3_21) rfl (pc' := 23) rfl ?_
        refine R.aloadN X23 hx (hb hby d3_23) rfl rfl (pc' := 24) rfl ?_
        refine R.alen X23 hx hZ e23 V_a1 (hb hby d3_24) (pc' := 25) rfl ?_
        refine R.icmpNo X23 hx (hb hby d3_25) (tlt (by decide : (2 : Int32) < (3 : Int32))).2.1 (pc' := 28) rfl ?_
        refine R.aloadN X23 hx (hb hby d3_28) rfl rfl (pc' := 29) rfl ?_
        refine R.iloadN X23 hx (hb hby d3_29) rfl (pc' := 30) rfl ?_
        refine R.iload X23 hx (hb hby d3_30) rfl (pc' := 32) rfl ?_
        refine R.iadd X23 hx (hb hby d3_32) (v := (3 : Int32)) (by decide) (pc' := 33) rfl ?_
        refine R.dup2 X23 hx (hb hby d3_33) rfl rfl (pc' := 34) rfl ?_
        refine R.daload X23 hx hZ e23 V_b18 (⟨by decide, by decide⟩ : ¬ (3 : Int32) < 0 ∧ (3 : Int32) < (4 : Int32)) (v := (.double (0 : UInt64))) (getH_miss ((⟨by decide, by decide⟩ : ¬ (3 : Int32) < 0 ∧ (3 : Int32) < (4 : Int32))).1 (by decide) (getH_miss ((⟨by decide, by decide⟩ : ¬ (3 : Int32) < 0 ∧ (3 : Int32) < (4 : Int32))).1 (by decide) (getH_miss ((⟨by decide, by decide⟩ : ¬ (3 : Int32) < 0 ∧ (3 : Int32) < (4 : Int32))).1 (by decide) (getH_miss ((⟨by decide, by decide⟩ : ¬ (3 : Int32) < 0 ∧ (3 : Int32) < (4 : Int32))).1 (by decide) (getH_miss ((⟨by decide, by decide⟩ : ¬ (3 : Int32) < 0 ∧ (3 : Int32) < (4 : Int32))).1 (by decide) (own_getH_nil _ _)))))) (hb hby d3_34) (pc' := 35) rfl ?_
        refine R.aloadN X23 hx (hb hby d3_35) rfl rfl (pc' := 36) rfl ?_
        refine R.iloadN X23 hx (hb hby d3_36) rfl (pc' := 37) rfl ?_
        refine R.daload X23 hx hZ e23 V_a0 (⟨by decide, by decide⟩ : ¬ (1 : Int32) < 0 ∧ (1 : Int32) < (2 : Int32)) (v := (.double x1)) (r1_a0 (by decide)) (hb hby d3_37) (pc' := 38) rfl ?_
        refine R.aloadN X23 hx (hb hby d3_38) rfl rfl (pc' := 39) rfl ?_
        refine R.iload X23 hx (hb hby d3_39) rfl (pc' := 41) rfl ?_
        refine R.daload X23 hx hZ e23 V_a1 (⟨by decide, by decide⟩ : ¬ (2 : Int32) < 0 ∧ (2 : Int32) < (3 : Int32)) (v := (.double y2)) (r2_a1 (by decide)) (hb hby d3_41) (pc' := 42) rfl ?_
        refine R.dmul X23 hx (hb hby d3_42) ((Dy.mul (D1_a0 (by decide)) (D2_a1 (by decide)) ((own_ab.mul b1_a0 b2_a1).lt (by decide)) (by decide)).nn : NoNaN64 (FP.dmul x1 y2)) (pc' := 43) rfl ?_
        refine R.dadd X23 hx (hb hby d3_43) ((Dy.add own_zero (Dy.mul (D1_a0 (by decide)) (D2_a1 (by decide)) ((own_ab.mul b1_a0 b2_a1).lt (by decide)) (by decide)) ((own_ab.add own_ab0 (own_ab.mul b1_a0 b2_a1)).lt (by decide)) (by decide)).nn : NoNaN64 (FP.dadd (0 : UInt64) (FP.dmul x1 y2))) (pc' := 44) rfl ?_
        refine R.dastore X23 hx hZ e23 V_b18 (⟨by decide, by decide⟩ : ¬ (3 : Int32) < 0 ∧ (3 : Int32) < (4 : Int32)) (hb hby d3_44) (pc' := 45) rfl ?_; intro T24 h24 X24 e24 W24 V24
        have V_a0 := V_a0.other W24 ne_a0_b18
        have V_a1 := V_a1.other W24 ne_a1_b18
        have V_b18 : Arh Z h24 b18 k18 .double (4 : Int32) [((3 : Int32), (.double (FP.dadd (0 : UInt64) (FP.dmul x1 y2)))), ((2 : Int32), (.double (FP.dadd (FP.dadd (0 : UInt64) (FP.dmul x0 y2)) (FP.dmul x1 y1)))), ((1 : Int32), (.double (FP.dadd (FP.dadd (0 : UInt64) (FP.dmul x0 y1)) (FP.dmul x1 y0)))), ((2 : Int32), (.double (FP.dadd (0 : UInt64) (FP.dmul x0 y2)))), ((1 : Int32), (.double (FP.dadd (0 : UInt64) (FP.dmul x0 y1)))), ((0 : Int32), (.double (FP.dadd (0 : UInt64) (FP.dmul x0 y0))))] [] (.double (0 : UInt64)) := V24
        have N24 := Fr.snoc X24 N23 g_b18
        have K24 : Keep h0 h24 [] := K23.wr W24 (Or.inr sz_b18)
        have Z24 : n0 ≤ h24.size := Nat.le_trans Z23 (Keep.of_wr W24).1
        refine R.iinc X24 hx (hb hby d3_45) rfl (L' := #[.val (.ref a0), .val (.ref a1), .val (.ref b18), .val (.int (1 : Int32)), .val (.int (3 : Int32))]) rfl (pc' := 48) rfl ?_
        refine R.goto X24 hx (hb hby d3_48) (by decide) (pc' := 21) (by decide) ?_
        refine R.iload X24 hx (hb hby d3_21) rfl (pc' := 23) rfl ?_
        refine R.aloadN X24 hx (hb hby d3_23) rfl rfl (pc' := 24) rfl ?_
        refine R.alen X24 hx hZ e24 V_a1 (hb hby d3_24) (pc' := 25) rfl ?_
        refine R.icmpYes X24 hx (hb hby d3_25) (flt (by decide : ¬ ((3 : Int32) < (3 : Int32)))).2.1 (by decide) (pc' := 51) (by decide) ?_
        refine R.iinc X24 hx (hb hby d3_51) rfl (L' := #[.val (.ref a0), .val (.ref a1), .val (.ref b18), .val (.int (2 : Int32)), .val (.int (3 : Int32))]) rfl (pc' := 54) rfl ?_
        refine R.goto X24 hx (hb hby d3_54) (by decide) (pc' := 12) (by decide) ?_
        refine R.iloadN X24 hx (hb hby d3_12) rfl (pc' := 13) rfl ?_
        refine R.aloadN X24 hx (hb hby d3_13) rfl rfl (pc' := 14) rfl ?_
        refine R.alen X24 hx hZ e24 V_a0 (hb hby d3_14) (pc' := 15) rfl ?_
        refine R.icmpYes X24 hx (hb hby d3_15) (flt (by decide : ¬ ((2 : Int32) < (2 : Int32)))).2.1 (by decide) (pc' := 57) (by decide) ?_
        refine R.aloadN X24 hx (hb hby d3_57) rfl rfl (pc' := 58) rfl ?_
        rw [← hG]
        exact Rn.ret X24 (BodyLoose.notSynchronized Bd) (v := some (.ref b18)) (fun h => by rw [Bd.returns] at h; cases h) (Q := Q3 Z a0 a1 ka kb (2 : Int32) (3 : Int32) ha hbb x0 x1 x2 y0 y1 y2 A0 A1 A2 B0 B1 B2 h0 n0) e24 (fun fs hr => retOut X24 hx (t := (.array .double)) Bd.returns rfl (Or.inr (Or.inr (Or.inr (Or.inr ⟨rfl, rfl, rfl⟩)))) (hb hby d3_58) hr) ⟨b18, k18, [((3 : Int32), (.double (FP.dadd (0 : UInt64) (FP.dmul x1 y2)))), ((2 : Int32), (.double (FP.dadd (FP.dadd (0 : UInt64) (FP.dmul x0 y2)) (FP.dmul x1 y1)))), ((1 : Int32), (.double (FP.dadd (FP.dadd (0 : UInt64) (FP.dmul x0 y1)) (FP.dmul x1 y0)))), ((2 : Int32), (.double (FP.dadd (0 : UInt64) (FP.dmul x0 y2)))), ((1 : Int32), (.double (FP.dadd (0 : UInt64) (FP.dmul x0 y1)))), ((0 : Int32), (.double (FP.dadd (0 : UInt64) (FP.dmul x0 y0))))], rfl, N24, K24, sz_b18, V_b18, (fun _ => ⟨_, getH_miss (by decide) (by decide) (getH_miss (by decide) (by decide) (getH_miss (by decide) (by decide) (getH_miss (by decide) (by decide) (getH_miss (by decide) (by decide) (getH_hit (by decide) (rfl)))))), Dy.cast (Dy.add own_zero (Dy.mul (D0_a0) (D0_a1) ((own_ab.mul b0_a0 b0_a1).lt (by decide)) (by decide)) ((own_ab.add own_ab0 (own_ab.mul b0_a0 b0_a1)).lt (by decide)) (by decide)) (by first | omega | (simp only [z2_a0 (by decide)]; omega)) rfl⟩), (fun _ => ⟨_, getH_miss (by decide) (by decide) (getH_miss (by decide) (by decide) (getH_hit (by decide) (rfl))), Dy.cast (Dy.add (Dy.add own_zero (Dy.mul (D0_a0) (D1_a1 (by decide)) ((own_ab.mul b0_a0 b1_a1).lt (by decide)) (by decide)) ((own_ab.add own_ab0 (own_ab.mul b0_a0 b1_a1)).lt (by decide)) (by decide)) (Dy.mul (D1_a0 (by decide)) (D0_a1) ((own_ab.mul b1_a0 b0_a1).lt (by decide)) (by decide)) ((own_ab.add (own_ab.add own_ab0 (own_ab.mul b0_a0 b1_a1)) (own_ab.mul b1_a0 b0_a1)).lt (by decide)) (by decide)) (by first | omega | (simp only [z2_a0 (by decide)]; omega)) rfl⟩), (fun _ => ⟨_, getH_miss (by decide) (by decide) (getH_hit (by decide) (rfl)), Dy.cast (Dy.add (Dy.add own_zero (Dy.mul (D0_a0) (D2_a1 (by decide)) ((own_ab.mul b0_a0 b2_a1).lt (by decide)) (by decide)) ((own_ab.add own_ab0 (own_ab.mul b0_a0 b2_a1)).lt (by decide)) (by decide)) (Dy.mul (D1_a0 (by decide)) (D1_a1 (by decide)) ((own_ab.mul b1_a0 b1_a1).lt (by decide)) (by decide)) ((own_ab.add (own_ab.add own_ab0 (own_ab.mul b0_a0 b2_a1)) (own_ab.mul b1_a0 b1_a1)).lt (by decide)) (by decide)) (by first | omega | (simp only [z2_a0 (by decide)]; omega)) rfl⟩), (fun _ => ⟨_, getH_hit (by decide) (rfl), Dy.cast (Dy.add own_zero (Dy.mul (D1_a0 (by decide)) (D2_a1 (by decide)) ((own_ab.mul b1_a0 b2_a1).lt (by decide)) (by decide)) ((own_ab.add own_ab0 (own_ab.mul b1_a0 b2_a1)).lt (by decide)) (by decide)) (by first | omega | (simp only [z2_a0 (by decide)]; omega)) rfl⟩), (fun q => absurd q (by decide))⟩ (by decide) (by decide)
    · rcases hl_a1 with rfl | rfl | rfl
      · refine R.aloadN X0 hx (hb hby d3_0) rfl rfl (pc' := 1) rfl ?_
        refine R.alen X0 hx hZ e0 V_a0 (hb hby d3_1) (pc' := 2) rfl ?_
        refine R.aloadN X0 hx (hb hby d3_2) rfl rfl (pc' := 3) rfl ?_
        refine R.alen X0 hx hZ e0 V_a1 (hb hby d3_3) (pc' := 4) rfl ?_
        refine R.iadd X0 hx (hb hby d3_4) (v := (4 : Int32)) (by decide) (pc' := 5) rfl ?_
        refine R.iconst X0 hx (hb hby d3_5) (v := (1 : Int32)) (by decide) (pc' := 6) rfl ?_
        refine R.isub X0 hx (hb hby d3_6) (v := (3 : Int32)) (by decide) (pc' := 7) rfl ?_
        refine R.newP X0 hx hZ (ty := .double) rfl w_7 e0 (by decide) (cap := 3) (by decide) (by decide) (ad := "[D") (by decide) (hb hby d3_7) (pc' := 9) rfl (by decide) (by decide) ?_; intro T25 h25 b25 k25 g25 X25 e25 E25 EE25 AA25
        have g_b25 : n0 ≤ b25 := Nat.le_trans Z0 (Nat.le_of_eq g25.symm)
        have sz_b25 : h0.size ≤ b25 := Nat.le_trans K0.1 (Nat.le_of_eq g25.symm)
        have ne_a0_b25 : a0 ≠ b25 := Nat.ne_of_lt (Nat.lt_of_lt_of_le V_a0.lt (Nat.le_of_eq g25.symm))
        have ne_a1_b25 : a1 ≠ b25 := Nat.ne_of_lt (Nat.lt_of_lt_of_le V_a1.lt (Nat.le_of_eq g25.symm))
        have K25 : Keep h0 h25 [] := K0.ext E25
        have Z25 : n0 ≤ h25.size := Nat.le_trans Z0 E25.1
        have V_a0 := V_a0.ext E25
        have V_a1 := V_a1.ext E25
        have V_b25 : Arh Z h25 b25 k25 .double (3 : Int32) [] [] (.double (0 : UInt64)) := AA25
        refine R.astoreN X25 hx (hb hby d3_9) rfl (L' := #[.val (.ref a0), .val (.ref a1), .val (.ref b25), .unset, .unset]) rfl (pc' := 10) rfl ?_
        refine R.iconst X25 hx (hb hby d3_10) (v := (0 : Int32)) (by decide) (pc' := 11) rfl ?_
        refine R.istoreN X25 hx (hb hby d3_11) (L' := #[.val (.ref a0), .val (.ref a1), .val (.ref b25), .val (.int (0 : Int32)), .unset]) rfl (pc' := 12) rfl ?_
        refine R.iloadN X25 hx (hb hby d3_12) rfl (pc' := 13) rfl ?_
        refine R.aloadN X25 hx (hb hby d3_13) rfl rfl (pc' := 14) rfl ?_
        refine R.alen X25 hx hZ e25 V_a0 (hb hby d3_14) (pc' := 15) rfl ?_
        refine R.icmpNo X25 hx (hb hby d3_15) (tlt (by decide : (0 : Int32) < (3 : Int32))).2.1 (pc' := 18) rfl ?_
        refine R.iconst X25 hx (hb hby d3_18) (v := (0 : Int32)) (by decide) (pc' := 19) rfl ?_
        refine R.istore X25 hx (hb hby d3_19) (L' := #[.val (.ref a0), .val (.ref a1), .val (.ref b25), .val (.int (0 : Int32)), .val (.int (0 : Int32))]) rfl (pc' := 21) rfl ?_
        refine R.iload X25 hx (hb hby d3_21) rfl (pc' := 23) rfl ?_
        refine R.aloadN X25 hx (hb hby d3_23) rfl rfl (pc' := 24) rfl ?_
        refine R.alen X25 hx hZ e25 V_a1 (hb hby d3_24) (pc' := 25) rfl ?_
        refine R.icmpNo X25 hx (hb hby d3_25) (tlt (by decide : (0 : Int32) < (1 : Int32))).2.1 (pc' := 28) rfl ?_
        refine R.aloadN X25 hx (hb hby d3_28) rfl rfl (pc' := 29) rfl ?_
        refine R.iloadN X25 hx (hb hby d3_29) rfl (pc' := 30) rfl ?_
        refine R.iload X25 hx (hb hby d3_30) rfl (pc' := 32) rfl ?_
        refine R.iadd X25 hx (hb hby d3_32) (v := (0 : Int32)) (by decide) (pc' := 33) rfl ?_
        refine R.dup2 X25 hx (hb hby d3_33) rfl rfl (pc' := 34) rfl ?_
        refine R.daload X25 hx hZ e25 V_b25 (⟨by decide, by decide⟩ : ¬ (0 : Int32) < 0 ∧ (0 : Int32) < (3 : Int32)) (v := (.double (0 : UInt64))) (own_getH_nil _ _) (hb hby d3_34) (pc' := 35) rfl ?_
        refine R.aloadN X25 hx (hb hby d3_35) rfl rfl (pc' := 36) rfl ?_
        refine R.iloadN X25 hx (hb hby d3_36) rfl (pc' := 37) rfl ?_
        refine R.daload X25 hx hZ e25 V_a0 (⟨by decide, by decide⟩ : ¬ (0 : Int32) < 0 ∧ (0 : Int32) < (3 : Int32)) (v := (.double x0)) (r0_a0) (hb hby d3_37) (pc' := 38) rfl ?_
        refine R.aloadN X25 hx (hb hby d3_38) rfl rfl (pc' := 39) rfl ?_
        refine R.iload X25 hx (hb hby d3_39) rfl (pc' := 41) rfl ?_
        refine R.daload X25 hx hZ e25 V_a1 (⟨by decide, by decide⟩ : ¬ (0 : Int32) < 0 ∧ (0 : Int32) < (1 : Int32)) (v := (.double y0)) (r0_a1) (hb hby d3_41) (pc' := 42) rfl ?_
        refine R.dmul X25 hx (hb hby d3_42) ((Dy.mul (D0_a0) (D0_a1) ((own_ab.mul b0_a0 b0_a1).lt (by decide)) (by decide)).nn : NoNaN64 (FP.dmul x0 y0)) (pc' := 43) rfl ?_
        refine R.dadd X25 hx (hb hby d3_43) ((Dy.add own_zero (Dy.mul (D0_a0) (D0_a1) ((own_ab.mul b0_a0 b0_a1).lt (by decide)) (by decide)) ((own_ab.add own_ab0 (own_ab.mul b0_a0 b0_a1)).lt (by decide)) (by decide)).nn : NoNaN64 (FP.dadd (0 : UInt64) (FP.dmul x0 y0))) (pc' := 44) rfl ?_
        refine R.dastore X25 hx hZ e25 V_b25 (⟨by decide, by decide⟩ : ¬ (0 : Int32) < 0 ∧ (0 : Int32) < (3 : Int32)) (hb hby d3_44) (pc' := 45) rfl ?_; intro T26 h26 X26 e26 W26 V26
        have V_a0 := V_a0.other W26 ne_a0_b25
        have V_a1 := V_a1.other W26 ne_a1_b25
        have V_b25 : Arh Z h26 b25 k25 .double (3 : Int32) [((0 : Int32), (.double (FP.dadd (0 : UInt64) (FP.dmul x0 y0))))] [] (.double (0 : UInt64)) := V26
        have N26 := Fr.snoc X26 N0 g_b25
        have K26 : Keep h0 h26 [] := K25.wr W26 (Or.inr sz_b25)
        have Z26 : n0 ≤ h26.size := Nat.le_trans Z25 (Keep.of_wr W26).1
        refine R.iinc X26 hx (hb hby d3_45) rfl (L' := #[.val (.ref a0), .val (.ref a1), .val (.ref b25), .val (.int (0 : Int32)), .val (.int (1 : Int32))]) rfl (pc' := 48) rfl ?_
        refine R.goto X26 hx (hb hby d3_48) (by decide) (pc' := 21) (by decide) ?_
        refine R.iload X26 hx (hb hby d3_21) rfl (pc' := 23) rfl ?_
        refine R.aloadN X26 hx (hb hby d3_23) rfl rfl (pc' := 24) rfl ?_
        refine R.alen X26 hx hZ e26 V_a1 (hb hby d3_24) (pc' := 25) rfl ?_
        refine R.icmpYes X26 hx (hb hby d3_25) (flt (by decide : ¬ ((1 : Int32) < (1 : Int32)))).2.1 (by decide) (pc' := 51) (by decide) ?_
        refine R.iinc X26 hx (hb hby d3_51) rfl (L' := #[.val (.ref a0), .val (.ref a1), .val (.ref b25), .val (.int (1 : Int32)), .val (.int (1 : Int32))]) rfl (pc' := 54) rfl ?_
        refine R.goto X26 hx (hb hby d3_54) (by decide) (pc' := 12) (by decide) ?_
        refine R.iloadN X26 hx (hb hby d3_12) rfl (pc' := 13) rfl ?_
        refine R.aloadN X26 hx (hb hby d3_13) rfl rfl (pc' := 14) rfl ?_
        refine R.alen X26 hx hZ e26 V_a0 (hb hby d3_14) (pc' := 15) rfl ?_
        refine R.icmpNo X26 hx (hb hby d3_15) (tlt (by decide : (1 : Int32) < (3 : Int32))).2.1 (pc' := 18) rfl ?_
        refine R.iconst X26 hx (hb hby d3_18) (v := (0 : Int32)) (by decide) (pc' := 19) rfl ?_
        refine R.istore X26 hx (hb hby d3_19) (L' := #[.val (.ref a0), .val (.ref a1), .val (.ref b25), .val (.int (1 : Int32)), .val (.int (0 : Int32))]) rfl (pc' := 21) rfl ?_
        refine R.iload X26 hx (hb hby d3_21) rfl (pc' := 23) rfl ?_
        refine R.aloadN X26 hx (hb hby d3_23) rfl rfl (pc' := 24) rfl ?_
        refine R.alen X26 hx hZ e26 V_a1 (hb hby d3_24) (pc' := 25) rfl ?_
        refine R.icmpNo X26 hx (hb hby d3_25) (tlt (by decide : (0 : Int32) < (1 : Int32))).2.1 (pc' := 28) rfl ?_
        refine R.aloadN X26 hx (hb hby d3_28) rfl rfl (pc' := 29) rfl ?_
        refine R.iloadN X26 hx (hb hby d3_29) rfl (pc' := 30) rfl ?_
        refine R.iload X26 hx (hb hby d3_30) rfl (pc' := 32) rfl ?_
        refine R.iadd X26 hx (hb hby d3_32) (v := (1 : Int32)) (by decide) (pc' := 33) rfl ?_
        refine R.dup2 X26 hx (hb hby d3_33) rfl rfl (pc' := 34) rfl ?_
        refine R.daload X26 hx hZ e26 V_b25 (⟨by decide, by decide⟩ : ¬ (1 : Int32) < 0 ∧ (1 : Int32) < (3 : Int32)) (v := (.double (0 : UInt64))) (getH_miss ((⟨by decide, by decide⟩ : ¬ (1 : Int32) < 0 ∧ (1 : Int32) < (3 : Int32))).1 (by decide) (own_getH_nil _ _)) (hb hby d3_34) (pc' := 35) rfl ?_
        refine R.aloadN X26 hx (hb hby d3_35) rfl rfl (pc' := 36) rfl ?_
        refine R.iloadN X26 hx (hb hby d3_36) rfl (pc' := 37) rfl ?_
        refine R.daload X26 hx hZ e26 V_a0 (⟨by decide, by decide⟩ : ¬ (1 : Int32) < 0 ∧ (1 : Int32) < (3 : Int32)) (v := (.double x1)) (r1_a0 (by decide)) (hb hby d3_37) (pc' := 38) rfl ?_
        refine R.aloadN X26 hx (hb hby d3_38) rfl rfl (pc' := 39) rfl ?_
        refine R.iload X26 hx (hb hby d3_39) rfl (pc' := 41) rfl ?_
        refine R.daload X26 hx hZ e26 V_a1 (⟨by decide, by decide⟩ : ¬ (0 : Int32) < 0 ∧ (0 : Int32) < (1 : Int32)) (v := (.double y0)) (r0_a1) (hb hby d3_41) (pc' := 42) rfl ?_
        refine R.dmul X26 hx (hb hby d3_42) ((Dy.mul (D1_a0 (by decide)) (D0_a1) ((own_ab.mul b1_a0 b0_a1).lt (by decide)) (by decide)).nn : NoNaN64 (FP.dmul x1 y0)) (pc' := 43) rfl ?_
        refine R.dadd X26 hx (hb hby d3_43) ((Dy.add own_zero (Dy.mul (D1_a0 (by decide)) (D0_a1) ((own_ab.mul b1_a0 b0_a1).lt (by decide)) (by decide)) ((own_ab.add own_ab0 (own_ab.mul b1_a0 b0_a1)).lt (by decide)) (by decide)).nn : NoNaN64 (FP.dadd (0 : UInt64) (FP.dmul x1 y0))) (pc' := 44) rfl ?_
        refine R.dastore X26 hx hZ e26 V_b25 (⟨by decide, by decide⟩ : ¬ (1 : Int32) < 0 ∧ (1 : Int32) < (3 : Int32)) (hb hby d3_44) (pc' := 45) rfl ?_; intro T27 h27 X27 e27 W27 V27
        have V_a0 := V_a0.other W27 ne_a0_b25
        have V_a1 := V_a1.other W27 ne_a1_b25
        have V_b25 : Arh Z h27 b25 k25 .double (3 : Int32) [((1 : Int32), (.double (FP.dadd (0 : UInt64) (FP.dmul x1 y0)))), ((0 : Int32), (.double (FP.dadd (0 : UInt64) (FP.dmul x0 y0))))] [] (.double (0 : UInt64)) := V27
        have N27 := Fr.snoc X27 N26 g_b25
        have K27 : Keep h0 h27 [] := K26.wr W27 (Or.inr sz_b25)
        have Z27 : n0 ≤ h27.size := Nat.le_trans Z26 (Keep.of_wr W27).1
        refine R.iinc X27 hx (hb hby d3_45) rfl (L' := #[.val (.ref a0), .val (.ref a1), .val (.ref b25), .val (.int (1 : Int32)), .val (.int (1 : Int32))]) rfl (pc' := 48) rfl ?_
        refine R.goto X27 hx (hb hby d3_48) (by decide) (pc' := 21) (by decide) ?_
        refine R.iload X27 hx (hb hby d3_21) rfl (pc' := 23) rfl ?_
        refine R.aloadN X27 hx (hb hby d3_23) rfl rfl (pc' := 24) rfl ?_
        refine R.alen X27 hx hZ e27 V_a1 (hb hby d3_24) (pc' := 25) rfl ?_
        refine R.icmpYes X27 hx (hb hby d3_25) (flt (by decide : ¬ ((1 : Int32) < (1 : Int32)))).2.1 (by decide) (pc' := 51) (by decide) ?_
        refine R.iinc X27 hx (hb hby d3_51) rfl (L' := #[.val (.ref a0), .val (.ref a1), .val (.ref b25), .val (.int (2 : Int32)), .val (.int (1 : Int32))]) rfl (pc' := 54) rfl ?_
        refine R.goto X27 hx (hb hby d3_54) (by decide) (pc' := 12) (by decide) ?_
        refine R.iloadN X27 hx (hb hby d3_12) rfl (pc' := 13) rfl ?_
        refine R.aloadN X27 hx (hb hby d3_13) rfl rfl (pc' := 14) rfl ?_
        refine R.alen X27 hx hZ e27 V_a0 (hb hby d3_14) (pc' := 15) rfl ?_
        refine R.icmpNo X27 hx (hb hby d3_15) (tlt (by decide : (2 : Int32) < (3 : Int32))).2.1 (pc' := 18) rfl ?_
        refine R.iconst X27 hx (hb hby d3_18) (v := (0 : Int32)) (by decide) (pc' := 19) rfl ?_
        refine R.istore X27 hx (hb hby d3_19) (L' := #[.val (.ref a0), .val (.ref a1), .val (.ref b25), .val (.int (2 : Int32)), .val (.int (0 : Int32))]) rfl (pc' := 21) rfl ?_
        refine R.iload X27 hx (hb hby d3_21) rfl (pc' := 23) rfl ?_
        refine R.aloadN X27 hx (hb hby d3_23) rfl rfl (pc' := 24) rfl ?_
        refine R.alen X27 hx hZ e27 V_a1 (hb hby d3_24) (pc' := 25) rfl ?_
        refine R.icmpNo X27 hx (hb hby d3_25) (tlt (by decide : (0 : Int32) < (1 : Int32))).2.1 (pc' := 28) rfl ?_
        refine R.aloadN X27 hx (hb hby d3_28) rfl rfl (pc' := 29) rfl ?_
        refine R.iloadN X27 hx (hb hby d3_29) rfl (pc' := 30) rfl ?_
        refine R.iload X27 hx (hb hby d3_30) rfl (pc' := 32) rfl ?_
        refine R.iadd X27 hx (hb hby d3_32) (v := (2 : Int32)) (by decide) (pc' := 33) rfl ?_
        refine R.dup2 X27 hx (hb hby d3_33) rfl rfl (pc' := 34) rfl ?_
        refine R.daload X27 hx hZ e27 V_b25 (⟨by decide, by decide⟩ : ¬ (2 : Int32) < 0 ∧ (2 : Int32) < (3 : Int32)) (v := (.double (0 : UInt64))) (getH_miss ((⟨by decide, by decide⟩ : ¬ (2 : Int32) < 0 ∧ (2 : Int32) < (3 : Int32))).1 (by decide) (getH_miss ((⟨by decide, by decide⟩ : ¬ (2 : Int32) < 0 ∧ (2 : Int32) < (3 : Int32))).1 (by decide) (own_getH_nil _ _))) (hb hby d3_34) (pc' := 35) rfl ?_
        refine R.aloadN X27 hx (hb hby d3_35) rfl rfl (pc' := 36) rfl ?_
        refine R.iloadN X27 hx (hb hby d3_36) rfl (pc' := 37) rfl ?_
        refine R.daload X27 hx hZ e27 V_a0 (⟨by decide, by decide⟩ : ¬ (2 : Int32) < 0 ∧ (2 : Int32) < (3 : Int32)) (v := (.double x2)) (r2_a0 (by decide)) (hb hby d3_37) (pc' := 38) rfl ?_
        refine R.aloadN X27 hx (hb hby d3_38) rfl rfl (pc' := 39) rfl ?_
        refine R.iload X27 hx (hb hby d3_39) rfl (pc' := 41) rfl ?_
        refine R.daload X27 hx hZ e27 V_a1 (⟨by decide, by decide⟩ : ¬ (0 : Int32) < 0 ∧ (0 : Int32) < (1 : Int32)) (v := (.double y0)) (r0_a1) (hb hby d3_41) (pc' := 42) rfl ?_
        refine R.dmul X27 hx (hb hby d3_42) ((Dy.mul (D2_a0 (by decide)) (D0_a1) ((own_ab.mul b2_a0 b0_a1).lt (by decide)) (by decide)).nn : NoNaN64 (FP.dmul x2 y0)) (pc' := 43) rfl ?_
        refine R.dadd X27 hx (hb hby d3_43) ((Dy.add own_zero (Dy.mul (D2_a0 (by decide)) (D0_a1) ((own_ab.mul b2_a0 b0_a1).lt (by decide)) (by decide)) ((own_ab.add own_ab0 (own_ab.mul b2_a0 b0_a1)).lt (by decide)) (by decide)).nn : NoNaN64 (FP.dadd (0 : UInt64) (FP.dmul x2 y0))) (pc' := 44) rfl ?_
        refine R.dastore X27 hx hZ e27 V_b25 (⟨by decide, by decide⟩ : ¬ (2 : Int32) < 0 ∧ (2 : Int32) < (3 : Int32)) (hb hby d3_44) (pc' := 45) rfl ?_; intro T28 h28 X28 e28 W28 V28
        have V_a0 := V_a0.other W28 ne_a0_b25
        have V_a1 := V_a1.other W28 ne_a1_b25
        have V_b25 : Arh Z h28 b25 k25 .double (3 : Int32) [((2 : Int32), (.double (FP.dadd (0 : UInt64) (FP.dmul x2 y0)))), ((1 : Int32), (.double (FP.dadd (0 : UInt64) (FP.dmul x1 y0)))), ((0 : Int32), (.double (FP.dadd (0 : UInt64) (FP.dmul x0 y0))))] [] (.double (0 : UInt64)) := V28
        have N28 := Fr.snoc X28 N27 g_b25
        have K28 : Keep h0 h28 [] := K27.wr W28 (Or.inr sz_b25)
        have Z28 : n0 ≤ h28.size := Nat.le_trans Z27 (Keep.of_wr W28).1
        refine R.iinc X28 hx (hb hby d3_45) rfl (L' := #[.val (.ref a0), .val (.ref a1), .val (.ref b25), .val (.int (2 : Int32)), .val (.int (1 : Int32))]) rfl (pc' := 48) rfl ?_
        refine R.goto X28 hx (hb hby d3_48) (by decide) (pc' := 21) (by decide) ?_
        refine R.iload X28 hx (hb hby d3_21) rfl (pc' := 23) rfl ?_
        refine R.aloadN X28 hx (hb hby d3_23) rfl rfl (pc' := 24) rfl ?_
        refine R.alen X28 hx hZ e28 V_a1 (hb hby d3_24) (pc' := 25) rfl ?_
        refine R.icmpYes X28 hx (hb hby d3_25) (flt (by decide : ¬ ((1 : Int32) < (1 : Int32)))).2.1 (by decide) (pc' := 51) (by decide) ?_
        refine R.iinc X28 hx (hb hby d3_51) rfl (L' := #[.val (.ref a0), .val (.ref a1), .val (.ref b25), .val (.int (3 : Int32)), .val (.int (1 : Int32))]) rfl (pc' := 54) rfl ?_
        refine R.goto X28 hx (hb hby d3_54) (by decide) (pc' := 12) (by decide) ?_
        refine R.iloadN X28 hx (hb hby d3_12) rfl (pc' := 13) rfl ?_
        refine R.aloadN X28 hx (hb hby d3_13) rfl rfl (pc' := 14) rfl ?_
        refine R.alen X28 hx hZ e28 V_a0 (hb hby d3_14) (pc' := 15) rfl ?_
        refine R.icmpYes X28 hx (hb hby d3_15) (flt (by decide : ¬ ((3 : Int32) < (3 : Int32)))).2.1 (by decide) (pc' := 57) (by decide) ?_
        refine R.aloadN X28 hx (hb hby d3_57) rfl rfl (pc' := 58) rfl ?_
        rw [← hG]
        exact Rn.ret X28 (BodyLoose.notSynchronized Bd) (v := some (.ref b25)) (fun h => by rw [Bd.returns] at h; cases h) (Q := Q3 Z a0 a1 ka kb (3 : Int32) (1 : Int32) ha hbb x0 x1 x2 y0 y1 y2 A0 A1 A2 B0 B1 B2 h0 n0) e28 (fun fs hr => retOut X28 hx (t := (.array .double)) Bd.returns rfl (Or.inr (Or.inr (Or.inr (Or.inr ⟨rfl, rfl, rfl⟩)))) (hb hby d3_58) hr) ⟨b25, k25, [((2 : Int32), (.double (FP.dadd (0 : UInt64) (FP.dmul x2 y0)))), ((1 : Int32), (.double (FP.dadd (0 : UInt64) (FP.dmul x1 y0)))), ((0 : Int32), (.double (FP.dadd (0 : UInt64) (FP.dmul x0 y0))))], rfl, N28, K28, sz_b25, V_b25, (fun _ => ⟨_, getH_miss (by decide) (by decide) (getH_miss (by decide) (by decide) (getH_hit (by decide) (rfl))), Dy.cast (Dy.add own_zero (Dy.mul (D0_a0) (D0_a1) ((own_ab.mul b0_a0 b0_a1).lt (by decide)) (by decide)) ((own_ab.add own_ab0 (own_ab.mul b0_a0 b0_a1)).lt (by decide)) (by decide)) (by first | omega | (simp only [z1_a1 (by decide), z2_a1 (by decide)]; omega)) rfl⟩), (fun _ => ⟨_, getH_miss (by decide) (by decide) (getH_hit (by decide) (rfl)), Dy.cast (Dy.add own_zero (Dy.mul (D1_a0 (by decide)) (D0_a1) ((own_ab.mul b1_a0 b0_a1).lt (by decide)) (by decide)) ((own_ab.add own_ab0 (own_ab.mul b1_a0 b0_a1)).lt (by decide)) (by decide)) (by first | omega | (simp only [z1_a1 (by decide), z2_a1 (by decide)]; omega)) rfl⟩), (fun _ => ⟨_, getH_hit (by decide) (rfl), Dy.cast (Dy.add own_zero (Dy.mul (D2_a0 (by decide)) (D0_a1) ((own_ab.mul b2_a0 b0_a1).lt (by decide)) (by decide)) ((own_ab.add own_ab0 (own_ab.mul b2_a0 b0_a1)).lt (by decide)) (by decide)) (by first | omega | (simp only [z1_a1 (by decide), z2_a1 (by decide)]; omega)) rfl⟩), (fun q => absurd q (by decide)), (fun q => absurd q (by decide))⟩ (by decide) (by decide)
      · refine R.aloadN X0 hx (hb hby d3_0) rfl rfl (pc' := 1) rfl ?_
        refine R.alen X0 hx hZ e0 V_a0 (hb hby d3_1) (pc' := 2) rfl ?_
        refine R.aloadN X0 hx (hb hby d3_2) rfl rfl (pc' := 3) rfl ?_
        refine R.alen X0 hx hZ e0 V_a1 (hb hby d3_3) (pc' := 4) rfl ?_
        refine R.iadd X0 hx (hb hby d3_4) (v := (5 : Int32)) (by decide) (pc' := 5) rfl ?_
        refine R.iconst X0 hx (hb hby d3_5) (v := (1 : Int32)) (by decide) (pc' := 6) rfl ?_
        refine R.isub X0 hx (hb hby d3_6) (v := (4 : Int32)) (by decide) (pc' := 7) rfl ?_
        refine R.newP X0 hx hZ (ty := .double) rfl w_7 e0 (by decide) (cap := 4) (by decide) (by decide) (ad := "[D") (by decide) (hb hby d3_7) (pc' := 9) rfl (by decide) (by decide) ?_; intro T29 h29 b29 k29 g29 X29 e29 E29 EE29 AA29
        have g_b29 : n0 ≤ b29 := Nat.le_trans Z0 (Nat.le_of_eq g29.symm)
        have sz_b29 : h0.size ≤ b29 := Nat.le_trans K0.1 (Nat.le_of_eq g29.symm)
        have ne_a0_b29 : a0 ≠ b29 := Nat.ne_of_lt (Nat.lt_of_lt_of_le V_a0.lt (Nat.le_of_eq g29.symm))
        have ne_a1_b29 : a1 ≠ b29 := Nat.ne_of_lt (Nat.lt_of_lt_of_le V_a1.lt (Nat.le_of_eq g29.symm))
        have K29 : Keep h0 h29 [] := K0.ext E29
        have Z29 : n0 ≤ h29.size := Nat.le_trans Z0 E29.1
        have V_a0 := V_a0.ext E29
        have V_a1 := V_a1.ext E29
        have V_b29 : Arh Z h29 b29 k29 .double (4 : Int32) [] [] (.double (0 : UInt64)) := AA29
        refine R.astoreN X29 hx (hb hby d3_9) rfl (L' := #[.val (.ref a0), .val (.ref a1), .val (.ref b29), .unset, .unset]) rfl (pc' := 10) rfl ?_
        refine R.iconst X29 hx (hb hby d3_10) (v := (0 : Int32)) (by decide) (pc' := 11) rfl ?_
        refine R.istoreN X29 hx (hb hby d3_11) (L' := #[.val (.ref a0), .val (.ref a1), .val (.ref b29), .val (.int (0 : Int32)), .unset]) rfl (pc' := 12) rfl ?_
        refine R.iloadN X29 hx (hb hby d3_12) rfl (pc' := 13) rfl ?_
        refine R.aloadN X29 hx (hb hby d3_13) rfl rfl (pc' := 14) rfl ?_
        refine R.alen X29 hx hZ e29 V_a0 (hb hby d3_14) (pc' := 15) rfl ?_
        refine R.icmpNo X29 hx (hb hby d3_15) (tlt (by decide : (0 : Int32) < (3 : Int32))).2.1 (pc' := 18) rfl ?_
        refine R.iconst X29 hx (hb hby d3_18) (v := (0 : Int32)) (by decide) (pc' := 19) rfl ?_
        refine R.istore X29 hx (hb hby d3_19) (L' := #[.val (.ref a0), .val (.ref a1), .val (.ref b29), .val (.int (0 : Int32)), .val (.int (0 : Int32))]) rfl (pc' := 21) rfl ?_
        refine R.iload X29 hx (hb hby d3_21) rfl (pc' := 23) rfl ?_
        refine R.aloadN X29 hx (hb hby d3_23) rfl rfl (pc' := 24) rfl ?_
        refine R.alen X29 hx hZ e29 V_a1 (hb hby d3_24) (pc' := 25) rfl ?_
        refine R.icmpNo X29 hx (hb hby d3_25) (tlt (by decide : (0 : Int32) < (2 : Int32))).2.1 (pc' := 28) rfl ?_
        refine R.aloadN X29 hx (hb hby d3_28) rfl rfl (pc' := 29) rfl ?_
        refine R.iloadN X29 hx (hb hby d3_29) rfl (pc' := 30) rfl ?_
        refine R.iload X29 hx (hb hby d3_30) rfl (pc' := 32) rfl ?_
        refine R.iadd X29 hx (hb hby d3_32) (v := (0 : Int32)) (by decide) (pc' := 33) rfl ?_
        refine R.dup2 X29 hx (hb hby d3_33) rfl rfl (pc' := 34) rfl ?_
        refine R.daload X29 hx hZ e29 V_b29 (⟨by decide, by decide⟩ : ¬ (0 : Int32) < 0 ∧ (0 : Int32) < (4 : Int32)) (v := (.double (0 : UInt64))) (own_getH_nil _ _) (hb hby d3_34) (pc' := 35) rfl ?_
        refine R.aloadN X29 hx (hb hby d3_35) rfl rfl (pc' := 36) rfl ?_
        refine R.iloadN X29 hx (hb hby d3_36) rfl (pc' := 37) rfl ?_
        refine R.daload X29 hx hZ e29 V_a0 (⟨by decide, by decide⟩ : ¬ (0 : Int32) < 0 ∧ (0 : Int32) < (3 : Int32)) (v := (.double x0)) (r0_a0) (hb hby d3_37) (pc' := 38) rfl ?_
        refine R.aloadN X29 hx (hb hby d3_38) rfl rfl (pc' := 39) rfl ?_
        refine R.iload X29 hx (hb hby d3_39) rfl (pc' := 41) rfl ?_
        refine R.daload X29 hx hZ e29 V_a1 (⟨by decide, by decide⟩ : ¬ (0 : Int32) < 0 ∧ (0 : Int32) < (2 : Int32)) (v := (.double y0)) (r0_a1) (hb hby d3_41) (pc' := 42) rfl ?_
        refine R.dmul X29 hx (hb hby d3_42) ((Dy.mul (D0_a0) (D0_a1) ((own_ab.mul b0_a0 b0_a1).lt (by decide)) (by decide)).nn : NoNaN64 (FP.dmul x0 y0)) (pc' := 43) rfl ?_
        refine R.dadd X29 hx (hb hby d3_43) ((Dy.add own_zero (Dy.mul (D0_a0) (D0_a1) ((own_ab.mul b0_a0 b0_a1).lt (by decide)) (by decide)) ((own_ab.add own_ab0 (own_ab.mul b0_a0 b0_a1)).lt (by decide)) (by decide)).nn : NoNaN64 (FP.dadd (0 : UInt64) (FP.dmul x0 y0))) (pc' := 44) rfl ?_
        refine R.dastore X29 hx hZ e29 V_b29 (⟨by decide, by decide⟩ : ¬ (0 : Int32) < 0 ∧ (0 : Int32) < (4 : Int32)) (hb hby d3_44) (pc' := 45) rfl ?_; intro T30 h30 X30 e30 W30 V30
        have V_a0 := V_a0.other W30 ne_a0_b29
        have V_a1 := V_a1.other W30 ne_a1_b29
        have V_b29 : Arh Z h30 b29 k29 .double (4 : Int32) [((0 : Int32), (.double (FP.dadd (0 : UInt64) (FP.dmul x0 y0))))] [] (.double (0 : UInt64)) := V30
        have N30 := Fr.snoc X30 N0 g_b29
        have K30 : Keep h0 h30 [] := K29.wr W30 (Or.inr sz_b29)
        have Z30 : n0 ≤ h30.size := Nat.le_trans Z29 (Keep.of_wr W30).1
        refine R.iinc X30 hx (hb hby d3_45) rfl (L' := #[.val (.ref a0), .val (.ref a1), .val (.ref b29), .val (.int (0 : Int32)), .val (.int (1 : Int32))]) rfl (pc' := 48) rfl ?_
        refine R.goto X30 hx (hb hby d3_48) (by decide) (pc' := 21) (by decide) ?_
        refine R.iload X30 hx (hb hby d3_21) rfl (pc' := 23) rfl ?_
        refine R.aloadN X30 hx (hb hby d3_23) rfl rfl (pc' := 24) rfl ?_
        refine R.alen X30 hx hZ e30 V_a1 (hb hby d3_24) (pc' := 25) rfl ?_
        refine R.icmpNo X30 hx (hb hby d3_25) (tlt (by decide : (1 : Int32) < (2 : Int32))).2.1 (pc' := 28) rfl ?_
        refine R.aloadN X30 hx (hb hby d3_28) rfl rfl (pc' := 29) rfl ?_
        refine R.iloadN X30 hx (hb hby d3_29) rfl (pc' := 30) rfl ?_
        refine R.iload X30 hx (hb hby d3_30) rfl (pc' := 32) rfl ?_
        refine R.iadd X30 hx (hb hby d3_32) (v := (1 : Int32)) (by decide) (pc' := 33) rfl ?_
        refine R.dup2 X30 hx (hb hby d3_33) rfl rfl (pc' := 34) rfl ?_
        refine R.daload X30 hx hZ e30 V_b29 (⟨by decide, by decide⟩ : ¬ (1 : Int32) < 0 ∧ (1 : Int32) < (4 : Int32)) (v := (.double (0 : UInt64))) (getH_miss ((⟨by decide, by decide⟩ : ¬ (1 : Int32) < 0 ∧ (1 : Int32) < (4 : Int32))).1 (by decide) (own_getH_nil _ _)) (hb hby d3_34) (pc' := 35) rfl ?_
        refine R.aloadN X30 hx (hb hby d3_35) rfl rfl (pc' := 36) rfl ?_
        refine R.iloadN X30 hx (hb hby d3_36) rfl (pc' := 37) rfl ?_
        refine R.daload X30 hx hZ e30 V_a0 (⟨by decide, by decide⟩ : ¬ (0 : Int32) < 0 ∧ (0 : Int32) < (3 : Int32)) (v := (.double x0)) (r0_a0) (hb hby d3_37) (pc' := 38) rfl ?_
        refine R.aloadN X30 hx (hb hby d3_38) rfl rfl (pc' := 39) rfl ?_
        refine R.iload X30 hx (hb hby d3_39) rfl (pc' := 41) rfl ?_
        refine R.daload X30 hx hZ e30 V_a1 (⟨by decide, by decide⟩ : ¬ (1 : Int32) < 0 ∧ (1 : Int32) < (2 : Int32)) (v := (.double y1)) (r1_a1 (by decide)) (hb hby d3_41) (pc' := 42) rfl ?_
        refine R.dmul X30 hx (hb hby d3_42) ((Dy.mul (D0_a0) (D1_a1 (by decide)) ((own_ab.mul b0_a0 b1_a1).lt (by decide)) (by decide)).nn : NoNaN64 (FP.dmul x0 y1)) (pc' := 43) rfl ?_
        refine R.dadd X30 hx (hb hby d3_43) ((Dy.add own_zero (Dy.mul (D0_a0) (D1_a1 (by decide)) ((own_ab.mul b0_a0 b1_a1).lt (by decide)) (by decide)) ((own_ab.add own_ab0 (own_ab.mul b0_a0 b1_a1)).lt (by decide)) (by decide)).nn : NoNaN64 (FP.dadd (0 : UInt64) (FP.dmul x0 y1))) (pc' := 44) rfl ?_
        refine R.dastore X30 hx hZ e30 V_b29 (⟨by decide, by decide⟩ : ¬ (1 : Int32) < 0 ∧ (1 : Int32) < (4 : Int32)) (hb hby d3_44) (pc' := 45) rfl ?_; intro T31 h31 X31 e31 W31 V31
        have V_a0 := V_a0.other W31 ne_a0_b29
        have V_a1 := V_a1.other W31 ne_a1_b29
        have V_b29 : Arh Z h31 b29 k29 .double (4 : Int32) [((1 : Int32), (.double (FP.dadd (0 : UInt64) (FP.dmul x0 y1)))), ((0 : Int32), (.double (FP.dadd (0 : UInt64) (FP.dmul x0 y0))))] [] (.double (0 : UInt64)) := V31
        have N31 := Fr.snoc X31 N30 g_b29
        have K31 : Keep h0 h31 [] := K30.wr W31 (Or.inr sz_b29)
        have Z31 : n0 ≤ h31.size := Nat.le_trans Z30 (Keep.of_wr W31).1
        refine R.iinc X31 hx (hb hby d3_45) rfl (L' := #[.val (.ref a0), .val (.ref a1), .val (.ref b29), .val (.int (0 : Int32)), .val (.int (2 : Int32))]) rfl (pc' := 48) rfl ?_
        refine R.goto X31 hx (hb hby d3_48) (by decide) (pc' := 21) (by decide) ?_
        refine R.iload X31 hx (hb hby d3_21) rfl (pc' := 23) rfl ?_
        refine R.aloadN X31 hx (hb hby d3_23) rfl rfl (pc' := 24) rfl ?_
        refine R.alen X31 hx hZ e31 V_a1 (hb hby d3_24) (pc' := 25) rfl ?_
        refine R.icmpYes X31 hx (hb hby d3_25) (flt (by decide : ¬ ((2 : Int32) < (2 : Int32)))).2.1 (by decide) (pc' := 51) (by decide) ?_
        refine R.iinc X31 hx (hb hby d3_51) rfl (L' := #[.val (.ref a0), .val (.ref a1), .val (.ref b29), .val (.int (1 : Int32)), .val (.int (2 : Int32))]) rfl (pc' := 54) rfl ?_
        refine R.goto X31 hx (hb hby d3_54) (by decide) (pc' := 12) (by decide) ?_
        refine R.iloadN X31 hx (hb hby d3_12) rfl (pc' := 13) rfl ?_
        refine R.aloadN X31 hx (hb hby d3_13) rfl rfl (pc' := 14) rfl ?_
        refine R.alen X31 hx hZ e31 V_a0 (hb hby d3_14) (pc' := 15) rfl ?_
        refine R.icmpNo X31 hx (hb hby d3_15) (tlt (by decide : (1 : Int32) < (3 : Int32))).2.1 (pc' := 18) rfl ?_
        refine R.iconst X31 hx (hb hby d3_18) (v := (0 : Int32)) (by decide) (pc' := 19) rfl ?_
        refine R.istore X31 hx (hb hby d3_19) (L' := #[.val (.ref a0), .val (.ref a1), .val (.ref b29), .val (.int (1 : Int32)), .val (.int (0 : Int32))]) rfl (pc' := 21) rfl ?_
        refine R.iload X31 hx (hb hby d3_21) rfl (pc' := 23) rfl ?_
        refine R.aloadN X31 hx (hb hby d3_23) rfl rfl (pc' := 24) rfl ?_
        refine R.alen X31 hx hZ e31 V_a1 (hb hby d3_24) (pc' := 25) rfl ?_
        refine R.icmpNo X31 hx (hb hby d3_25) (tlt (by decide : (0 : Int32) < (2 : Int32))).2.1 (pc' := 28) rfl ?_
        refine R.aloadN X31 hx (hb hby d3_28) rfl rfl (pc' := 29) rfl ?_
        refine R.iloadN X31 hx (hb hby d3_29) rfl (pc' := 30) rfl ?_
        refine R.iload X31 hx (hb hby d3_30) rfl (pc' := 32) rfl ?_
        refine R.iadd X31 hx (hb hby d3_32) (v := (1 : Int32)) (by decide) (pc' := 33) rfl ?_
        refine R.dup2 X31 hx (hb hby d3_33) rfl rfl (pc' := 34) rfl ?_
        refine R.daload X31 hx hZ e31 V_b29 (⟨by decide, by decide⟩ : ¬ (1 : Int32) < 0 ∧ (1 : Int32) < (4 : Int32)) (v := (.double (FP.dadd (0 : UInt64) (FP.dmul x0 y1)))) (getH_hit ((⟨by decide, by decide⟩ : ¬ (1 : Int32) < 0 ∧ (1 : Int32) < (4 : Int32))).1 (rfl)) (hb hby d3_34) (pc' := 35) rfl ?_
        refine R.aloadN X31 hx (hb hby d3_35) rfl rfl (pc' := 36) rfl ?_
        refine R.iloadN X31 hx (hb hby d3_36) rfl (pc' := 37) rfl ?_
        refine R.daload X31 hx hZ e31 V_a0 (⟨by decide, by decide⟩ : ¬ (1 : Int32) < 0 ∧ (1 : Int32) < (3 : Int32)) (v := (.double x1)) (r1_a0 (by decide)) (hb hby d3_37) (pc' := 38) rfl ?_
        refine R.aloadN X31 hx (hb hby d3_38) rfl rfl (pc' := 39) rfl ?_
        refine R.iload X31 hx (hb hby d3_39) rfl (pc' := 41) rfl ?_
        refine R.daload X31 hx hZ e31 V_a1 (⟨by decide, by decide⟩ : ¬ (0 : Int32) < 0 ∧ (0 : Int32) < (2 : Int32)) (v := (.double y0)) (r0_a1) (hb hby d3_41) (pc' := 42) rfl ?_
        refine R.dmul X31 hx (hb hby d3_42) ((Dy.mul (D1_a0 (by decide)) (D0_a1) ((own_ab.mul b1_a0 b0_a1).lt (by decide)) (by decide)).nn : NoNaN64 (FP.dmul x1 y0)) (pc' := 43) rfl ?_
        refine R.dadd X31 hx (hb hby d3_43) ((Dy.add (Dy.add own_zero (Dy.mul (D0_a0) (D1_a1 (by decide)) ((own_ab.mul b0_a0 b1_a1).lt (by decide)) (by decide)) ((own_ab.add own_ab0 (own_ab.mul b0_a0 b1_a1)).lt (by decide)) (by decide)) (Dy.mul (D1_a0 (by decide)) (D0_a1) ((own_ab.mul b1_a0 b0_a1).lt (by decide)) (by decide)) ((own_ab.add (own_ab.add own_ab0 (own_ab.mul b0_a0 b1_a1)) (own_ab.mul b1_a0 b0_a1)).lt (by decide)) (by decide)).nn : NoNaN64 (FP.dadd (FP.dadd (0 : UInt64) (FP.dmul x0 y1)) (FP.dmul x1 y0))) (pc' := 44) rfl ?_
        refine R.dastore X31 hx hZ e31 V_b29 (⟨by decide, by decide⟩ : ¬ (1 : Int32) < 0 ∧ (1 : Int32) < (4 : Int32)) (hb hby d3_44) (pc' := 45) rfl ?_; intro T32 h32 X32 e32 W32 V32
        have V_a0 := V_a0.other W32 ne_a0_b29
        have V_a1 := V_a1.other W32 ne_a1_b29
        have V_b29 : Arh Z h32 b29 k29 .double (4 : Int32) [((1 : Int32), (.double (FP.dadd (FP.dadd (0 : UInt64) (FP.dmul x0 y1)) (FP.dmul x1 y0)))), ((1 : Int32), (.double (FP.dadd (0 : UInt64) (FP.dmul x0 y1)))), ((0 : Int32), (.double (FP.dadd (0 : UInt64) (FP.dmul x0 y0))))] [] (.double (0 : UInt64)) := V32
        have N32 := Fr.snoc X32 N31 g_b29
        have K32 : Keep h0 h32 [] := K31.wr W32 (Or.inr sz_b29)
        have Z32 : n0 ≤ h32.size := Nat.le_trans Z31 (Keep.of_wr W32).1
        refine R.iinc X32 hx (hb hby d3_45) rfl (L' := #[.val (.ref a0), .val (.ref a1), .val (.ref b29), .val (.int (1 : Int32)), .val (.int (1 : Int32))]) rfl (pc' := 48) rfl ?_
        refine R.goto X32 hx (hb hby d3_48) (by decide) (pc' := 21) (by decide) ?_
        refine R.iload X32 hx (hb hby d3_21) rfl (pc' := 23) rfl ?_
        refine R.aloadN X32 hx (hb hby d3_23) rfl rfl (pc' := 24) rfl ?_
        refine R.alen X32 hx hZ e32 V_a1 (hb hby d3_24) (pc' := 25) rfl ?_
        refine R.icmpNo X32 hx (hb hby d3_25) (tlt (by decide : (1 : Int32) < (2 : Int32))).2.1 (pc' := 28) rfl ?_
        refine R.aloadN X32 hx (hb hby d3_28) rfl rfl (pc' := 29) rfl ?_
        refine R.iloadN X32 hx (hb hby d3_29) rfl (pc' := 30) rfl ?_
        refine R.iload X32 hx (hb hby d3_30) rfl (pc' := 32) rfl ?_
        refine R.iadd X32 hx (hb hby d3_32) (v := (2 : Int32)) (by decide) (pc' := 33) rfl ?_
        refine R.dup2 X32 hx (hb hby d3_33) rfl rfl (pc' := 34) rfl ?_
        refine R.daload X32 hx hZ e32 V_b29 (⟨by decide, by decide⟩ : ¬ (2 : Int32) < 0 ∧ (2 : Int32) < (4 : Int32)) (v := (.double (0 : UInt64))) (getH_miss ((⟨by decide, by decide⟩ : ¬ (2 : Int32) < 0 ∧ (2 : Int32) < (4 : Int32))).1 (by decide) (getH_miss ((⟨by decide, by decide⟩ : ¬ (2 : Int32) < 0 ∧ (2 : Int32) < (4 : Int32))).1 (by decide) (getH_miss ((⟨by decide, by decide⟩ : ¬ (2 : Int32) < 0 ∧ (2 : Int32) < (4 : Int32))).1 (by decide) (own_getH_nil _ _)))) (hb hby d3_34) (pc' := 35) rfl ?_
        refine R.aloadN X32 hx (hb hby d3_35) rfl rfl (pc' := 36) rfl ?_
        refine R.iloadN X32 hx (hb hby d3_36) rfl (pc' := 37) rfl ?_
        refine R.daload X32 hx hZ e32 V_a0 (⟨by decide, by decide⟩ : ¬ (1 : Int32) < 0 ∧ (1 : Int32) < (3 : Int32)) (v := (.double x1)) (r1_a0 (by decide)) (hb hby d3_37) (pc' := 38) rfl ?_
        refine R.aloadN X32 hx (hb hby d3_38) rfl rfl (pc' := 39) rfl ?_
        refine R.iload X32 hx (hb hby d3_39) rfl (pc' := 41) rfl ?_
        refine R.daload X32 hx hZ e32 V_a1 (⟨by decide, by decide⟩ : ¬ (1 : Int32) < 0 ∧ (1 : Int32) < (2 : Int32)) (v := (.double y1)) (r1_a1 (by decide)) (hb hby d3_41) (pc' := 42) rfl ?_
        refine R.dmul X32 hx (hb hby d3_42) ((Dy.mul (D1_a0 (by decide)) (D1_a1 (by decide)) ((own_ab.mul b1_a0 b1_a1).lt (by decide)) (by decide)).nn : NoNaN64 (FP.dmul x1 y1)) (pc' := 43) rfl ?_
        refine R.dadd X32 hx (hb hby d3_43) ((Dy.add own_zero (Dy.mul (D1_a0 (by decide)) (D1_a1 (by decide)) ((own_ab.mul b1_a0 b1_a1).lt (by decide)) (by decide)) ((own_ab.add own_ab0 (own_ab.mul b1_a0 b1_a1)).lt (by decide)) (by decide)).nn : NoNaN64 (FP.dadd (0 : UInt64) (FP.dmul x1 y1))) (pc' := 44) rfl ?_
        refine R.dastore X32 hx hZ e32 V_b29 (⟨by decide, by decide⟩ : ¬ (2 : Int32) < 0 ∧ (2 : Int32) < (4 : Int32)) (hb hby d3_44) (pc' := 45) rfl ?_; intro T33 h33 X33 e33 W33 V33
        have V_a0 := V_a0.other W33 ne_a0_b29
        have V_a1 := V_a1.other W33 ne_a1_b29
        have V_b29 : Arh Z h33 b29 k29 .double (4 : Int32) [((2 : Int32), (.double (FP.dadd (0 : UInt64) (FP.dmul x1 y1)))), ((1 : Int32), (.double (FP.dadd (FP.dadd (0 : UInt64) (FP.dmul x0 y1)) (FP.dmul x1 y0)))), ((1 : Int32), (.double (FP.dadd (0 : UInt64) (FP.dmul x0 y1)))), ((0 : Int32), (.double (FP.dadd (0 : UInt64) (FP.dmul x0 y0))))] [] (.double (0 : UInt64)) := V33
        have N33 := Fr.snoc X33 N32 g_b29
        have K33 : Keep h0 h33 [] := K32.wr W33 (Or.inr sz_b29)
        have Z33 : n0 ≤ h33.size := Nat.le_trans Z32 (Keep.of_wr W33).1
        refine R.iinc X33 hx (hb hby d3_45) rfl (L' := #[.val (.ref a0), .val (.ref a1), .val (.ref b29), .val (.int (1 : Int32)), .val (.int (2 : Int32))]) rfl (pc' := 48) rfl ?_
        refine R.goto X33 hx (hb hby d3_48) (by decide) (pc' := 21) (by decide) ?_
        refine R.iload X33 hx (hb hby d3_21) rfl (pc' := 23) rfl ?_
        refine R.aloadN X33 hx (hb hby d3_23) rfl rfl (pc' := 24) rfl ?_
        refine R.alen X33 hx hZ e33 V_a1 (hb hby d3_24) (pc' := 25) rfl ?_
        refine R.icmpYes X33 hx (hb hby d3_25) (flt (by decide : ¬ ((2 : Int32) < (2 : Int32)))).2.1 (by decide) (pc' := 51) (by decide) ?_
        refine R.iinc X33 hx (hb hby d3_51) rfl (L' := #[.val (.ref a0), .val (.ref a1), .val (.ref b29), .val (.int (2 : Int32)), .val (.int (2 : Int32))]) rfl (pc' := 54) rfl ?_
        refine R.goto X33 hx (hb hby d3_54) (by decide) (pc' := 12) (by decide) ?_
        refine R.iloadN X33 hx (hb hby d3_12) rfl (pc' := 13) rfl ?_
        refine R.aloadN X33 hx (hb hby d3_13) rfl rfl (pc' := 14) rfl ?_
        refine R.alen X33 hx hZ e33 V_a0 (hb hby d3_14) (pc' := 15) rfl ?_
        refine R.icmpNo X33 hx (hb hby d3_15) (tlt (by decide : (2 : Int32) < (3 : Int32))).2.1 (pc' := 18) rfl ?_
        refine R.iconst X33 hx (hb hby d3_18) (v := (0 : Int32)) (by decide) (pc' := 19) rfl ?_
        refine R.istore X33 hx (hb hby d3_19) (L' := #[.val (.ref a0), .val (.ref a1), .val (.ref b29), .val (.int (2 : Int32)), .val (.int (0 : Int32))]) rfl (pc' := 21) rfl ?_
        refine R.iload X33 hx (hb hby d3_21) rfl (pc' := 23) rfl ?_
        refine R.aloadN X33 hx (hb hby d3_23) rfl rfl (pc' := 24) rfl ?_
        refine R.alen X33 hx hZ e33 V_a1 (hb hby d3_24) (pc' := 25) rfl ?_
        refine R.icmpNo X33 hx (hb hby d3_25) (tlt (by decide : (0 : Int32) < (2 : Int32))).2.1 (pc' := 28) rfl ?_
        refine R.aloadN X33 hx (hb hby d3_28) rfl rfl (pc' := 29) rfl ?_
        refine R.iloadN X33 hx (hb hby d3_29) rfl (pc' := 30) rfl ?_
        refine R.iload X33 hx (hb hby d3_30) rfl (pc' := 32) rfl ?_
        refine R.iadd X33 hx (hb hby d3_32) (v := (2 : Int32)) (by decide) (pc' := 33) rfl ?_
        refine R.dup2 X33 hx (hb hby d3_33) rfl rfl (pc' := 34) rfl ?_
        refine R.daload X33 hx hZ e33 V_b29 (⟨by decide, by decide⟩ : ¬ (2 : Int32) < 0 ∧ (2 : Int32) < (4 : Int32)) (v := (.double (FP.dadd (0 : UInt64) (FP.dmul x1 y1)))) (getH_hit ((⟨by decide, by decide⟩ : ¬ (2 : Int32) < 0 ∧ (2 : Int32) < (4 : Int32))).1 (rfl)) (hb hby d3_34) (pc' := 35) rfl ?_
        refine R.aloadN X33 hx (hb hby d3_35) rfl rfl (pc' := 36) rfl ?_
        refine R.iloadN X33 hx (hb hby d3_36) rfl (pc' := 37) rfl ?_
        refine R.daload X33 hx hZ e33 V_a0 (⟨by decide, by decide⟩ : ¬ (2 : Int32) < 0 ∧ (2 : Int32) < (3 : Int32)) (v := (.double x2)) (r2_a0 (by decide)) (hb hby d3_37) (pc' := 38) rfl ?_
        refine R.aloadN X33 hx (hb hby d3_38) rfl rfl (pc' := 39) rfl ?_
        refine R.iload X33 hx (hb hby d3_39) rfl (pc' := 41) rfl ?_
        refine R.daload X33 hx hZ e33 V_a1 (⟨by decide, by decide⟩ : ¬ (0 : Int32) < 0 ∧ (0 : Int32) < (2 : Int32)) (v := (.double y0)) (r0_a1) (hb hby d3_41) (pc' := 42) rfl ?_
        refine R.dmul X33 hx (hb hby d3_42) ((Dy.mul (D2_a0 (by decide)) (D0_a1) ((own_ab.mul b2_a0 b0_a1).lt (by decide)) (by decide)).nn : NoNaN64 (FP.dmul x2 y0)) (pc' := 43) rfl ?_
        refine R.dadd X33 hx (hb hby d3_43) ((Dy.add (Dy.add own_zero (Dy.mul (D1_a0 (by decide)) (D1_a1 (by decide)) ((own_ab.mul b1_a0 b1_a1).lt (by decide)) (by decide)) ((own_ab.add own_ab0 (own_ab.mul b1_a0 b1_a1)).lt (by decide)) (by decide)) (Dy.mul (D2_a0 (by decide)) (D0_a1) ((own_ab.mul b2_a0 b0_a1).lt (by decide)) (by decide)) ((own_ab.add (own_ab.add own_ab0 (own_ab.mul b1_a0 b1_a1)) (own_ab.mul b2_a0 b0_a1)).lt (by decide)) (by decide)).nn : NoNaN64 (FP.dadd (FP.dadd (0 : UInt64) (FP.dmul x1 y1)) (FP.dmul x2 y0))) (pc' := 44) rfl ?_
        refine R.dastore X33 hx hZ e33 V_b29 (⟨by decide, by decide⟩ : ¬ (2 : Int32) < 0 ∧ (2 : Int32) < (4 : Int32)) (hb hby d3_44) (pc' := 45) rfl ?_; intro T34 h34 X34 e34 W34 V34
        have V_a0 := V_a0.other W34 ne_a0_b29
        have V_a1 := V_a1.other W34 ne_a1_b29
        have V_b29 : Arh Z h34 b29 k29 .double (4 : Int32) [((2 : Int32), (.double (FP.dadd (FP.dadd (0 : UInt64) (FP.dmul x1 y1)) (FP.dmul x2 y0)))), ((2 : Int32), (.double (FP.dadd (0 : UInt64) (FP.dmul x1 y1)))), ((1 : Int32), (.double (FP.dadd (FP.dadd (0 : UInt64) (FP.dmul x0 y1)) (FP.dmul x1 y0)))), ((1 : Int32), (.double (FP.dadd (0 : UInt64) (FP.dmul x0 y1)))), ((0 : Int32), (.double (FP.dadd (0 : UInt64) (FP.dmul x0 y0))))] [] (.double (0 : UInt64)) := V34
        have N34 := Fr.snoc X34 N33 g_b29
        have K34 : Keep h0 h34 [] := K33.wr W34 (Or.inr sz_b29)
        have Z34 : n0 ≤ h34.size := Nat.le_trans Z33 (Keep.of_wr W34).1
        refine R.iinc X34 hx (hb hby d3_45) rfl (L' := #[.val (.ref a0), .val (.ref a1), .val (.ref b29), .val (.int (2 : Int32)), .val (.int (1 : Int32))]) rfl (pc' := 48) rfl ?_
        refine R.goto X34 hx (hb hby d3_48) (by decide) (pc' := 21) (by decide) ?_
        refine R.iload X34 hx (hb hby d3_21) rfl (pc' := 23) rfl ?_
        refine R.aloadN X34 hx (hb hby d3_23) rfl rfl (pc' := 24) rfl ?_
        refine R.alen X34 hx hZ e34 V_a1 (hb hby d3_24) (pc' := 25) rfl ?_
        refine R.icmpNo X34 hx (hb hby d3_25) (tlt (by decide : (1 : Int32) < (2 : Int32))).2.1 (pc' := 28) rfl ?_
        refine R.aloadN X34 hx (hb hby d3_28) rfl rfl (pc' := 29) rfl ?_
        refine R.iloadN X34 hx (hb hby d3_29) rfl (pc' := 30) rfl ?_
        refine R.iload X34 hx (hb hby d3_30) rfl (pc' := 32) rfl ?_
        refine R.iadd X34 hx (hb hby d3_32) (v := (3 : Int32)) (by decide) (pc' := 33) rfl ?_
        refine R.dup2 X34 hx (hb hby d3_33) rfl rfl (pc' := 34) rfl ?_
        refine R.daload X34 hx hZ e34 V_b29 (⟨by decide, by decide⟩ : ¬ (3 : Int32) < 0 ∧ (3 : Int32) < (4 : Int32)) (v := (.double (0 : UInt64))) (getH_miss ((⟨by decide, by decide⟩ : ¬ (3 : Int32) < 0 ∧ (3 : Int32) < (4 : Int32))).1 (by decide) (getH_miss ((⟨by decide, by decide⟩ : ¬ (3 : Int32) < 0 ∧ (3 : Int32) < (4 : Int32))).1 (by decide) (getH_miss ((⟨by decide, by decide⟩ : ¬ (3 : Int32) < 0 ∧ (3 : Int32) < (4 : Int32))).1 (by decide) (getH_miss ((⟨by decide, by decide⟩ : ¬ (3 : Int32) < 0 ∧ (3 : Int32) < (4 : Int32))).1 (by decide) (getH_miss ((⟨by decide, by decide⟩ : ¬ (3 : Int32) < 0 ∧ (3 : Int32) < (4 : Int32))).1 (by decide) (own_getH_nil _ _)))))) (hb hby d3_34) (pc' := 35) rfl ?_
        refine R.aloadN X34 hx (hb hby d3_35) rfl rfl (pc' := 36) rfl ?_
        refine R.iloadN X34 hx (hb hby d3_36) rfl (pc' := 37) rfl ?_
        refine R.daload X34 hx hZ e34 V_a0 (⟨by decide, by decide⟩ : ¬ (2 : Int32) < 0 ∧ (2 : Int32) < (3 : Int32)) (v := (.double x2)) (r2_a0 (by decide)) (hb hby d3_37) (pc' := 38) rfl ?_
        refine R.aloadN X34 hx (hb hby d3_38) rfl rfl (pc' := 39) rfl ?_
        refine R.iload X34 hx (hb hby d3_39) rfl (pc' := 41) rfl ?_
        refine R.daload X34 hx hZ e34 V_a1 (⟨by decide, by decide⟩ : ¬ (1 : Int32) < 0 ∧ (1 : Int32) < (2 : Int32)) (v := (.double y1)) (r1_a1 (by decide)) (hb hby d3_41) (pc' := 42) rfl ?_
        refine R.dmul X34 hx (hb hby d3_42) ((Dy.mul (D2_a0 (by decide)) (D1_a1 (by decide)) ((own_ab.mul b2_a0 b1_a1).lt (by decide)) (by decide)).nn : NoNaN64 (FP.dmul x2 y1)) (pc' := 43) rfl ?_
        refine R.dadd X34 hx (hb hby d3_43) ((Dy.add own_zero (Dy.mul (D2_a0 (by decide)) (D1_a1 (by decide)) ((own_ab.mul b2_a0 b1_a1).lt (by decide)) (by decide)) ((own_ab.add own_ab0 (own_ab.mul b2_a0 b1_a1)).lt (by decide)) (by decide)).nn : NoNaN64 (FP.dadd (0 : UInt64) (FP.dmul x2 y1))) (pc' := 44) rfl ?_
        refine R.dastore X34 hx hZ e34 V_b29 (⟨by decide, by decide⟩ : ¬ (3 : Int32) < 0 ∧ (3 : Int32) < (4 : Int32)) (hb hby d3_44) (pc' := 45) rfl ?_; intro T35 h35 X35 e35 W35 V35
        have V_a0 := V_a0.other W35 ne_a0_b29
        have V_a1 := V_a1.other W35 ne_a1_b29
        have V_b29 : Arh Z h35 b29 k29 .double (4 : Int32) [((3 : Int32), (.double (FP.dadd (0 : UInt64) (FP.dmul x2 y1)))), ((2 : Int32), (.double (FP.dadd (FP.dadd (0 : UInt64) (FP.dmul x1 y1)) (FP.dmul x2 y0)))), ((2 : Int32), (.double (FP.dadd (0 : UInt64) (FP.dmul x1 y1)))), ((1 : Int32), (.double (FP.dadd (FP.dadd (0 : UInt64) (FP.dmul x0 y1)) (FP.dmul x1 y0)))), ((1 : Int32), (.double (FP.dadd (0 : UInt64) (FP.dmul x0 y1)))), ((0 : Int32), (.double (FP.dadd (0 : UInt64) (FP.dmul x0 y0))))] [] (.double (0 : UInt64)) := V35
        have N35 := Fr.snoc X35 N34 g_b29
        have K35 : Keep h0 h35 [] := K34.wr W35 (Or.inr sz_b29)
        have Z35 : n0 ≤ h35.size := Nat.le_trans Z34 (Keep.of_wr W35).1
        refine R.iinc X35 hx (hb hby d3_45) rfl (L' := #[.val (.ref a0), .val (.ref a1), .val (.ref b29), .val (.int (2 : Int32)), .val (.int (2 : Int32))]) rfl (pc' := 48) rfl ?_
        refine R.goto X35 hx (hb hby d3_48) (by decide) (pc' := 21) (by decide) ?_
        refine R.iload X35 hx (hb hby d3_21) rfl (pc' := 23) rfl ?_
        refine R.aloadN X35 hx (hb hby d3_23) rfl rfl (pc' := 24) rfl ?_
        refine R.alen X35 hx hZ e35 V_a1 (hb hby d3_24) (pc' := 25) rfl ?_
        refine R.icmpYes X35 hx (hb hby d3_25) (flt (by decide : ¬ ((2 : Int32) < (2 : Int32)))).2.1 (by decide) (pc' := 51) (by decide) ?_
        refine R.iinc X35 hx (hb hby d3_51) rfl (L' := #[.val (.ref a0), .val (.ref a1), .val (.ref b29), .val (.int (3 : Int32)), .val (.int (2 : Int32))]) rfl (pc' := 54) rfl ?_
        refine R.goto X35 hx (hb hby d3_54) (by decide) (pc' := 12) (by decide) ?_
        refine R.iloadN X35 hx (hb hby d3_12) rfl (pc' := 13) rfl ?_
        refine R.aloadN X35 hx (hb hby d3_13) rfl rfl (pc' := 14) rfl ?_
        refine R.alen X35 hx hZ e35 V_a0 (hb hby d3_14) (pc' := 15) rfl ?_
        refine R.icmpYes X35 hx (hb hby d3_15) (flt (by decide : ¬ ((3 : Int32) < (3 : Int32)))).2.1 (by decide) (pc' := 57) (by decide) ?_
        refine R.aloadN X35 hx (hb hby d3_57) rfl rfl (pc' := 58) rfl ?_
        rw [← hG]
        exact Rn.ret X35 (BodyLoose.notSynchronized Bd) (v := some (.ref b29)) (fun h => by rw [Bd.returns] at h; cases h) (Q := Q3 Z a0 a1 ka kb (3 : Int32) (2 : Int32) ha hbb x0 x1 x2 y0 y1 y2 A0 A1 A2 B0 B1 B2 h0 n0) e35 (fun fs hr => retOut X35 hx (t := (.array .double)) Bd.returns rfl (Or.inr (Or.inr (Or.inr (Or.inr ⟨rfl, rfl, rfl⟩)))) (hb hby d3_58) hr) ⟨b29, k29, [((3 : Int32), (.double (FP.dadd (0 : UInt64) (FP.dmul x2 y1)))), ((2 : Int32), (.double (FP.dadd (FP.dadd (0 : UInt64) (FP.dmul x1 y1)) (FP.dmul x2 y0)))), ((2 : Int32), (.double (FP.dadd (0 : UInt64) (FP.dmul x1 y1)))), ((1 : Int32), (.double (FP.dadd (FP.dadd (0 : UInt64) (FP.dmul x0 y1)) (FP.dmul x1 y0)))), ((1 : Int32), (.double (FP.dadd (0 : UInt64) (FP.dmul x0 y1)))), ((0 : Int32), (.double (FP.dadd (0 : UInt64) (FP.dmul x0 y0))))], rfl, N35, K35, sz_b29, V_b29, (fun _ => ⟨_, getH_miss (by decide) (by decide) (getH_miss (by decide) (by decide) (getH_miss (by decide) (by decide) (getH_miss (by decide) (by decide) (getH_miss (by decide) (by decide) (getH_hit (by decide) (rfl)))))), Dy.cast (Dy.add own_zero (Dy.mul (D0_a0) (D0_a1) ((own_ab.mul b0_a0 b0_a1).lt (by decide)) (by decide)) ((own_ab.add own_ab0 (own_ab.mul b0_a0 b0_a1)).lt (by decide)) (by decide)) (by first | omega | (simp only [z2_a1 (by decide)]; omega)) rfl⟩), (fun _ => ⟨_, getH_miss (by decide) (by decide) (getH_miss (by decide) (by decide) (getH_miss (by decide) (by decide) (getH_hit (by decide) (rfl)))), Dy.cast (Dy.add (Dy.add own_zero (Dy.mul (D0_a0) (D1_a1 (by decide)) ((own_ab.mul b0_a0 b1_a1).lt (by decide)) (by decide)) ((own_ab.add own_ab0 (own_ab.mul b0_a0 b1_a1)).lt (by decide)) (by decide)) (Dy.mul (D1_a0 (by decide)) (D0_a1) ((own_ab.mul b1_a0 b0_a1).lt (by decide)) (by decide)) ((own_ab.add (own_ab.add own_ab0 (own_ab.mul b0_a0 b1_a1)) (own_ab.mul b1_a0 b0_a1)).lt (by decide)) (by decide)) (by first | omega | (simp only [z2_a1 (by decide)]; omega)) rfl⟩), (fun _ => ⟨_, getH_miss (by decide) (by decide) (getH_hit (by decide) (rfl)), Dy.cast (Dy.add (Dy.add own_zero (Dy.mul (D1_a0 (by decide)) (D1_a1 (by decide)) ((own_ab.mul b1_a0 b1_a1).lt (by decide)) (by decide)) ((own_ab.add own_ab0 (own_ab.mul b1_a0 b1_a1)).lt (by decide)) (by decide)) (Dy.mul (D2_a0 (by decide)) (D0_a1) ((own_ab.mul b2_a0 b0_a1).lt (by decide)) (by decide)) ((own_ab.add (own_ab.add own_ab0 (own_ab.mul b1_a0 b1_a1)) (own_ab.mul b2_a0 b0_a1)).lt (by decide)) (by decide)) (by first | omega | (simp only [z2_a1 (by decide)]; omega)) rfl⟩), (fun _ => ⟨_, getH_hit (by decide) (rfl), Dy.cast (Dy.add own_zero (Dy.mul (D2_a0 (by decide)) (D1_a1 (by decide)) ((own_ab.mul b2_a0 b1_a1).lt (by decide)) (by decide)) ((own_ab.add own_ab0 (own_ab.mul b2_a0 b1_a1)).lt (by decide)) (by decide)) (by first | omega | (simp only [z2_a1 (by decide)]; omega)) rfl⟩), (fun q => absurd q (by decide))⟩ (by decide) (by decide)
      · refine R.aloadN X0 hx (hb hby d3_0) rfl rfl (pc' := 1) rfl ?_
        refine R.alen X0 hx hZ e0 V_a0 (hb hby d3_1) (pc' := 2) rfl ?_
        refine R.aloadN X0 hx (hb hby d3_2) rfl rfl (pc' := 3) rfl ?_
        refine R.alen X0 hx hZ e0 V_a1 (hb hby d3_3) (pc' := 4) rfl ?_
        refine R.iadd X0 hx (hb hby d3_4) (v := (6 : Int32)) (by decide) (pc' := 5) rfl ?_
        refine R.iconst X0 hx (hb hby d3_5) (v := (1 : Int32)) (by decide) (pc' := 6) rfl ?_
        refine R.isub X0 hx (hb hby d3_6) (v := (5 : Int32)) (by decide) (pc' := 7) rfl ?_
        refine R.newP X0 hx hZ (ty := .double) rfl w_7 e0 (by decide) (cap := 5) (by decide) (by decide) (ad := "[D") (by decide) (hb hby d3_7) (pc' := 9) rfl (by decide) (by decide) ?_; intro T36 h36 b36 k36 g36 X36 e36 E36 EE36 AA36
        have g_b36 : n0 ≤ b36 := Nat.le_trans Z0 (Nat.le_of_eq g36.symm)
        have sz_b36 : h0.size ≤ b36 := Nat.le_trans K0.1 (Nat.le_of_eq g36.symm)
        have ne_a0_b36 : a0 ≠ b36 := Nat.ne_of_lt (Nat.lt_of_lt_of_le V_a0.lt (Nat.le_of_eq g36.symm))
        have ne_a1_b36 : a1 ≠ b36 := Nat.ne_of_lt (Nat.lt_of_lt_of_le V_a1.lt (Nat.le_of_eq g36.symm))
        have K36 : Keep h0 h36 [] := K0.ext E36
        have Z36 : n0 ≤ h36.size := Nat.le_trans Z0 E36.1
        have V_a0 := V_a0.ext E36
        have V_a1 := V_a1.ext E36
        have V_b36 : Arh Z h36 b36 k36 .double (5 : Int32) [] [] (.double (0 : UInt64)) := AA36
        refine R.astoreN X36 hx (hb hby d3_9) rfl (L' := #[.val (.ref a0), .val (.ref a1), .val (.ref b36), .unset, .unset]) rfl (pc' := 10) rfl ?_
        refine R.iconst X36 hx (hb hby d3_10) (v := (0 : Int32)) (by decide) (pc' := 11) rfl ?_
        refine R.istoreN X36 hx (hb hby d3_11) (L' := #[.val (.ref a0), .val (.ref a1), .val (.ref b36), .val (.int (0 : Int32)), .unset]) rfl (pc' := 12) rfl ?_
        refine R.iloadN X36 hx (hb hby d3_12) rfl (pc' := 13) rfl ?_
        refine R.aloadN X36 hx (hb hby d3_13) rfl rfl (pc' := 14) rfl ?_
        refine R.alen X36 hx hZ e36 V_a0 (hb hby d3_14) (pc' := 15) rfl ?_
        refine R.icmpNo X36 hx (hb hby d3_15) (tlt (by decide : (0 : Int32) < (3 : Int32))).2.1 (pc' := 18) rfl ?_
        refine R.iconst X36 hx (hb hby d3_18) (v := (0 : Int32)) (by decide) (pc' := 19) rfl ?_
        refine R.istore X36 hx (hb hby d3_19) (L' := #[.val (.ref a0), .val (.ref a1), .val (.ref b36), .val (.int (0 : Int32)), .val (.int (0 : Int32))]) rfl (pc' := 21) rfl ?_
        refine R.iload X36 hx (hb hby d3_21) rfl (pc' := 23) rfl ?_
        refine R.aloadN X36 hx (hb hby d3_23) rfl rfl (pc' := 24) rfl ?_
        refine R.alen X36 hx hZ e36 V_a1 (hb hby d3_24) (pc' := 25) rfl ?_
        refine R.icmpNo X36 hx (hb hby d3_25) (tlt (by decide : (0 : Int32) < (3 : Int32))).2.1 (pc' := 28) rfl ?_
        refine R.aloadN X36 hx (hb hby d3_28) rfl rfl (pc' := 29) rfl ?_
        refine R.iloadN X36 hx (hb hby d3_29) rfl (pc' := 30) rfl ?_
        refine R.iload X36 hx (hb hby d3_30) rfl (pc' := 32) rfl ?_
        refine R.iadd X36 hx (hb hby d3_32) (v := (0 : Int32)) (by decide) (pc' := 33) rfl ?_
        refine R.dup2 X36 hx (hb hby d3_33) rfl rfl (pc' := 34) rfl ?_
        refine R.daload X36 hx hZ e36 V_b36 (⟨by decide, by decide⟩ : ¬ (0 : Int32) < 0 ∧ (0 : Int32) < (5 : Int32)) (v := (.double (0 : UInt64))) (own_getH_nil _ _) (hb hby d3_34) (pc' := 35) rfl ?_
        refine R.aloadN X36 hx (hb hby d3_35) rfl rfl (pc' := 36) rfl ?_
        refine R.iloadN X36 hx (hb hby d3_36) rfl (pc' := 37) rfl ?_
        refine R.daload X36 hx hZ e36 V_a0 (⟨by decide, by decide⟩ : ¬ (0 : Int32) < 0 ∧ (0 : Int32) < (3 : Int32)) (v := (.double x0)) (r0_a0) (hb hby d3_37) (pc' := 38) rfl ?_
        refine R.aloadN X36 hx (hb hby d3_38) rfl rfl (pc' := 39) rfl ?_
        refine R.iload X36 hx (hb hby d3_39) rfl (pc' := 41) rfl ?_
        refine R.daload X36 hx hZ e36 V_a1 (⟨by decide, by decide⟩ : ¬ (0 : Int32) < 0 ∧ (0 : Int32) < (3 : Int32)) (v := (.double y0)) (r0_a1) (hb hby d3_41) (pc' := 42) rfl ?_
        refine R.dmul X36 hx (hb hby d3_42) ((Dy.mul (D0_a0) (D0_a1) ((own_ab.mul b0_a0 b0_a1).lt (by decide)) (by decide)).nn : NoNaN64 (FP.dmul x0 y0)) (pc' := 43) rfl ?_
        refine R.dadd X36 hx (hb hby d3_43) ((Dy.add own_zero (Dy.mul (D0_a0) (D0_a1) ((own_ab.mul b0_a0 b0_a1).lt (by decide)) (by decide)) ((own_ab.add own_ab0 (own_ab.mul b0_a0 b0_a1)).lt (by decide)) (by decide)).nn : NoNaN64 (FP.dadd (0 : UInt64) (FP.dmul x0 y0))) (pc' := 44) rfl ?_
        refine R.dastore X36 hx hZ e36 V_b36 (⟨by decide, by decide⟩ : ¬ (0 : Int32) < 0 ∧ (0 : Int32) < (5 : Int32)) (hb hby d3_44) (pc' := 45) rfl ?_; intro T37 h37 X37 e37 W37 V37
        have V_a0 := V_a0.other W37 ne_a0_b36
        have V_a1 := V_a1.other W37 ne_a1_b36
        have V_b36 : Arh Z h37 b36 k36 .double (5 : Int32) [((0 : Int32), (.double (FP.dadd (0 : UInt64) (FP.dmul x0 y0))))] [] (.double (0 : UInt64)) := V37
        have N37 := Fr.snoc X37 N0 g_b36
        have K37 : Keep h0 h37 [] := K36.wr W37 (Or.inr sz_b36)
        have Z37 : n0 ≤ h37.size := Nat.le_trans Z36 (Keep.of_wr W37).1
        refine R.iinc X37 hx (hb hby d3_45) rfl (L' := #[.val (.ref a0), .val (.ref a1), .val (.ref b36), .val (.int (0 : Int32)), .val (.int (1 : Int32))]) rfl (pc' := 48) rfl ?_
        refine R.goto X37 hx (hb hby d3_48) (by decide) (pc' := 21) (by decide) ?_
        refine R.iload X37 hx (hb hby d3_21) rfl (pc' := 23) rfl ?_
        refine R.aloadN X37 hx (hb hby d3_23) rfl rfl (pc' := 24) rfl ?_
        refine R.alen X37 hx hZ e37 V_a1 (hb hby d3_24) (pc' := 25) rfl ?_
        refine R.icmpNo X37 hx (hb hby d3_25) (tlt (by decide : (1 : Int32) < (3 : Int32))).2.1 (pc' := 28) rfl ?_
        refine R.aloadN X37 hx (hb hby d3_28) rfl rfl (pc' := 29) rfl ?_
        refine R.iloadN X37 hx (hb hby d3_29) rfl (pc' := 30) rfl ?_
        refine R.iload X37 hx (hb hby d3_30) rfl (pc' := 32) rfl ?_
        refine R.iadd X37 hx (hb hby d3_32) (v := (1 : Int32)) (by decide) (pc' := 33) rfl ?_
        refine R.dup2 X37 hx (hb hby d3_33) rfl rfl (pc' := 34) rfl ?_
        refine R.daload X37 hx hZ e37 V_b36 (⟨by decide, by decide⟩ : ¬ (1 : Int32) < 0 ∧ (1 : Int32) < (5 : Int32)) (v := (.double (0 : UInt64))) (getH_miss ((⟨by decide, by decide⟩ : ¬ (1 : Int32) < 0 ∧ (1 : Int32) < (5 : Int32))).1 (by decide) (own_getH_nil _ _)) (hb hby d3_34) (pc' := 35) rfl ?_
        refine R.aloadN X37 hx (hb hby d3_35) rfl rfl (pc' := 36) rfl ?_
        refine R.iloadN X37 hx (hb hby d3_36) rfl (pc' := 37) rfl ?_
        refine R.daload X37 hx hZ e37 V_a0 (⟨by decide, by decide⟩ : ¬ (0 : Int32) < 0 ∧ (0 : Int32) < (3 : Int32)) (v := (.double x0)) (r0_a0) (hb hby d3_37) (pc' := 38) rfl ?_
        refine R.aloadN X37 hx (hb hby d3_38) rfl rfl (pc' := 39) rfl ?_
        refine R.iload X37 hx (hb hby d3_39) rfl (pc' := 41) rfl ?_
        refine R.daload X37 hx hZ e37 V_a1 (⟨by decide, by decide⟩ : ¬ (1 : Int32) < 0 ∧ (1 : Int32) < (3 : Int32)) (v := (.double y1)) (r1_a1 (by decide)) (hb hby d3_41) (pc' := 42) rfl ?_
        refine R.dmul X37 hx (hb hby d3_42) ((Dy.mul (D0_a0) (D1_a1 (by decide)) ((own_ab.mul b0_a0 b1_a1).lt (by decide)) (by decide)).nn : NoNaN64 (FP.dmul x0 y1)) (pc' := 43) rfl ?_
        refine R.dadd X37 hx (hb hby d3_43) ((Dy.add own_zero (Dy.mul (D0_a0) (D1_a1 (by decide)) ((own_ab.mul b0_a0 b1_a1).lt (by decide)) (by decide)) ((own_ab.add own_ab0 (own_ab.mul b0_a0 b1_a1)).lt (by decide)) (by decide)).nn : NoNaN64 (FP.dadd (0 : UInt64) (FP.dmul x0 y1))) (pc' := 44) rfl ?_
        refine R.dastore X37 hx hZ e37 V_b36 (⟨by decide, by decide⟩ : ¬ (1 : Int32) < 0 ∧ (1 : Int32) < (5 : Int32)) (hb hby d3_44) (pc' := 45) rfl ?_; intro T38 h38 X38 e38 W38 V38
        have V_a0 := V_a0.other W38 ne_a0_b36
        have V_a1 := V_a1.other W38 ne_a1_b36
        have V_b36 : Arh Z h38 b36 k36 .double (5 : Int32) [((1 : Int32), (.double (FP.dadd (0 : UInt64) (FP.dmul x0 y1)))), ((0 : Int32), (.double (FP.dadd (0 : UInt64) (FP.dmul x0 y0))))] [] (.double (0 : UInt64)) := V38
        have N38 := Fr.snoc X38 N37 g_b36
        have K38 : Keep h0 h38 [] := K37.wr W38 (Or.inr sz_b36)
        have Z38 : n0 ≤ h38.size := Nat.le_trans Z37 (Keep.of_wr W38).1
        refine R.iinc X38 hx (hb hby d3_45) rfl (L' := #[.val (.ref a0), .val (.ref a1), .val (.ref b36), .val (.int (0 : Int32)), .val (.int (2 : Int32))]) rfl (pc' := 48) rfl ?_
        refine R.goto X38 hx (hb hby d3_48) (by decide) (pc' := 21) (by decide) ?_
        refine R.iload X38 hx (hb hby d3_21) rfl (pc' := 23) rfl ?_
        refine R.aloadN X38 hx (hb hby d3_23) rfl rfl (pc' := 24) rfl ?_
        refine R.alen X38 hx hZ e38 V_a1 (hb hby d3_24) (pc' := 25) rfl ?_
        refine R.icmpNo X38 hx (hb hby d3_25) (tlt (by decide : (2 : Int32) < (3 : Int32))).2.1 (pc' := 28) rfl ?_
        refine R.aloadN X38 hx (hb hby d3_28) rfl rfl (pc' := 29) rfl ?_
        refine R.iloadN X38 hx (hb hby d3_29) rfl (pc' := 30) rfl ?_
        refine R.iload X38 hx (hb hby d3_30) rfl (pc' := 32) rfl ?_
        refine R.iadd X38 hx (hb hby d3_32) (v := (2 : Int32)) (by decide) (pc' := 33) rfl ?_
        refine R.dup2 X38 hx (hb hby d3_33) rfl rfl (pc' := 34) rfl ?_
        refine R.daload X38 hx hZ e38 V_b36 (⟨by decide, by decide⟩ : ¬ (2 : Int32) < 0 ∧ (2 : Int32) < (5 : Int32)) (v := (.double (0 : UInt64))) (getH_miss ((⟨by decide, by decide⟩ : ¬ (2 : Int32) < 0 ∧ (2 : Int32) < (5 : Int32))).1 (by decide) (getH_miss ((⟨by decide, by decide⟩ : ¬ (2 : Int32) < 0 ∧ (2 : Int32) < (5 : Int32))).1 (by decide) (own_getH_nil _ _))) (hb hby d3_34) (pc' := 35) rfl ?_
        refine R.aloadN X38 hx (hb hby d3_35) rfl rfl (pc' := 36) rfl ?_
        refine R.iloadN X38 hx (hb hby d3_36) rfl (pc' := 37) rfl ?_
        refine R.daload X38 hx hZ e38 V_a0 (⟨by decide, by decide⟩ : ¬ (0 : Int32) < 0 ∧ (0 : Int32) < (3 : Int32)) (v := (.double x0)) (r0_a0) (hb hby d3_37) (pc' := 38) rfl ?_
        refine R.aloadN X38 hx (hb hby d3_38) rfl rfl (pc' := 39) rfl ?_
        refine R.iload X38 hx (hb hby d3_39) rfl (pc' := 41) rfl ?_
        refine R.daload X38 hx hZ e38 V_a1 (⟨by decide, by decide⟩ : ¬ (2 : Int32) < 0 ∧ (2 : Int32) < (3 : Int32)) (v := (.double y2)) (r2_a1 (by decide)) (hb hby d3_41) (pc' := 42) rfl ?_
        refine R.dmul X38 hx (hb hby d3_42) ((Dy.mul (D0_a0) (D2_a1 (by decide)) ((own_ab.mul b0_a0 b2_a1).lt (by decide)) (by decide)).nn : NoNaN64 (FP.dmul x0 y2)) (pc' := 43) rfl ?_
        refine R.dadd X38 hx (hb hby d3_43) ((Dy.add own_zero (Dy.mul (D0_a0) (D2_a1 (by decide)) ((own_ab.mul b0_a0 b2_a1).lt (by decide)) (by decide)) ((own_ab.add own_ab0 (own_ab.mul b0_a0 b2_a1)).lt (by decide)) (by decide)).nn : NoNaN64 (FP.dadd (0 : UInt64) (FP.dmul x0 y2))) (pc' := 44) rfl ?_
        refine R.dastore X38 hx hZ e38 V_b36 (⟨by decide, by decide⟩ : ¬ (2 : Int32) < 0 ∧ (2 : Int32) < (5 : Int32)) (hb hby d3_44) (pc' := 45) rfl ?_; intro T39 h39 X39 e39 W39 V39
        have V_a0 := V_a0.other W39 ne_a0_b36
        have V_a1 := V_a1.other W39 ne_a1_b36
        have V_b36 : Arh Z h39 b36 k36 .double (5 : Int32) [((2 : Int32), (.double (FP.dadd (0 : UInt64) (FP.dmul x0 y2)))), ((1 : Int32), (.double (FP.dadd (0 : UInt64) (FP.dmul x0 y1)))), ((0 : Int32), (.double (FP.dadd (0 : UInt64) (FP.dmul x0 y0))))] [] (.double (0 : UInt64)) := V39
        have N39 := Fr.snoc X39 N38 g_b36
        have K39 : Keep h0 h39 [] := K38.wr W39 (Or.inr sz_b36)
        have Z39 : n0 ≤ h39.size := Nat.le_trans Z38 (Keep.of_wr W39).1
        refine R.iinc X39 hx (hb hby d3_45) rfl (L' := #[.val (.ref a0), .val (.ref a1), .val (.ref b36), .val (.int (0 : Int32)), .val (.int (3 : Int32))]) rfl (pc' := 48) rfl ?_
        refine R.goto X39 hx (hb hby d3_48) (by decide) (pc' := 21) (by decide) ?_
        refine R.iload X39 hx (hb hby d3_21) rfl (pc' := 23) rfl ?_
        refine R.aloadN X39 hx (hb hby d3_23) rfl rfl (pc' := 24) rfl ?_
        refine R.alen X39 hx hZ e39 V_a1 (hb hby d3_24) (pc' := 25) rfl ?_
        refine R.icmpYes X39 hx (hb hby d3_25) (flt (by decide : ¬ ((3 : Int32) < (3 : Int32)))).2.1 (by decide) (pc' := 51) (by decide) ?_
        refine R.iinc X39 hx (hb hby d3_51) rfl (L' := #[.val (.ref a0), .val (.ref a1), .val (.ref b36), .val (.int (1 : Int32)), .val (.int (3 : Int32))]) rfl (pc' := 54) rfl ?_
        refine R.goto X39 hx (hb hby d3_54) (by decide) (pc' := 12) (by decide) ?_
        refine R.iloadN X39 hx (hb hby d3_12) rfl (pc' := 13) rfl ?_
        refine R.aloadN X39 hx (hb hby d3_13) rfl rfl (pc' := 14) rfl ?_
        refine R.alen X39 hx hZ e39 V_a0 (hb hby d3_14) (pc' := 15) rfl ?_
        refine R.icmpNo X39 hx (hb hby d3_15) (tlt (by decide : (1 : Int32) < (3 : Int32))).2.1 (pc' := 18) rfl ?_
        refine R.iconst X39 hx (hb hby d3_18) (v := (0 : Int32)) (by decide) (pc' := 19) rfl ?_
        refine R.istore X39 hx (hb hby d3_19) (L' := #[.val (.ref a0), .val (.ref a1), .val (.ref b36), .val (.int (1 : Int32)), .val (.int (0 : Int32))]) rfl (pc' := 21) rfl ?_
        refine R.iload X39 hx (hb hby d3_21) rfl (pc' := 23) rfl ?_
        refine R.aloadN X39 hx (hb hby d3_23) rfl rfl (pc' := 24) rfl ?_
        refine R.alen X39 hx hZ e39 V_a1 (hb hby d3_24) (pc' := 25) rfl ?_
        refine R.icmpNo X39 hx (hb hby d3_25) (tlt (by decide : (0 : Int32) < (3 : Int32))).2.1 (pc' := 28) rfl ?_
        refine R.aloadN X39 hx (hb hby d3_28) rfl rfl (pc' := 29) rfl ?_
        refine R.iloadN X39 hx (hb hby d3_29) rfl (pc' := 30) rfl ?_
        refine R.iload X39 hx (hb hby d3_30) rfl (pc' := 32) rfl ?_
        refine R.iadd X39 hx (hb hby d3_32) (v := (1 : Int32)) (by decide) (pc' := 33) rfl ?_
        refine R.dup2 X39 hx (hb hby d3_33) rfl rfl (pc' := 34) rfl ?_
        refine R.daload X39 hx hZ e39 V_b36 (⟨by decide, by decide⟩ : ¬ (1 : Int32) < 0 ∧ (1 : Int32) < (5 : Int32)) (v := (.double (FP.dadd (0 : UInt64) (FP.dmul x0 y1)))) (getH_miss ((⟨by decide, by decide⟩ : ¬ (1 : Int32) < 0 ∧ (1 : Int32) < (5 : Int32))).1 (by decide) (getH_hit ((⟨by decide, by decide⟩ : ¬ (1 : Int32) < 0 ∧ (1 : Int32) < (5 : Int32))).1 (rfl))) (hb hby d3_34) (pc' := 35) rfl ?_
        refine R.aloadN X39 hx (hb hby d3_35) rfl rfl (pc' := 36) rfl ?_
        refine R.iloadN X39 hx (hb hby d3_36) rfl (pc' := 37) rfl ?_
        refine R.daload X39 hx hZ e39 V_a0 (⟨by decide, by decide⟩ : ¬ (1 : Int32) < 0 ∧ (1 : Int32) < (3 : Int32)) (v := (.double x1)) (r1_a0 (by decide)) (hb hby d3_37) (pc' := 38) rfl ?_
        refine R.aloadN X39 hx (hb hby d3_38) rfl rfl (pc' := 39) rfl ?_
        refine R.iload X39 hx (hb hby d3_39) rfl (pc' := 41) rfl ?_
        refine R.daload X39 hx hZ e39 V_a1 (⟨by decide, by decide⟩ : ¬ (0 : Int32) < 0 ∧ (0 : Int32) < (3 : Int32)) (v := (.double y0)) (r0_a1) (hb hby d3_41) (pc' := 42) rfl ?_
        refine R.dmul X39 hx (hb hby d3_42) ((Dy.mul (D1_a0 (by decide)) (D0_a1) ((own_ab.mul b1_a0 b0_a1).lt (by decide)) (by decide)).nn : NoNaN64 (FP.dmul x1 y0)) (pc' := 43) rfl ?_
        refine R.dadd X39 hx (hb hby d3_43) ((Dy.add (Dy.add own_zero (Dy.mul (D0_a0) (D1_a1 (by decide)) ((own_ab.mul b0_a0 b1_a1).lt (by decide)) (by decide)) ((own_ab.add own_ab0 (own_ab.mul b0_a0 b1_a1)).lt (by decide)) (by decide)) (Dy.mul (D1_a0 (by decide)) (D0_a1) ((own_ab.mul b1_a0 b0_a1).lt (by decide)) (by decide)) ((own_ab.add (own_ab.add own_ab0 (own_ab.mul b0_a0 b1_a1)) (own_ab.mul b1_a0 b0_a1)).lt (by decide)) (by decide)).nn : NoNaN64 (FP.dadd (FP.dadd (0 : UInt64) (FP.dmul x0 y1)) (FP.dmul x1 y0))) (pc' := 44) rfl ?_
        refine R.dastore X39 hx hZ e39 V_b36 (⟨by decide, by decide⟩ : ¬ (1 : Int32) < 0 ∧ (1 : Int32) < (5 : Int32)) (hb hby d3_44) (pc' := 45) rfl ?_; intro T40 h40 X40 e40 W40 V40
        have V_a0 := V_a0.other W40 ne_a0_b36
        have V_a1 := V_a1.other W40 ne_a1_b36
        have V_b36 : Arh Z h40 b36 k36 .double (5 : Int32) [((1 : Int32), (.double (FP.dadd (FP.dadd (0 : UInt64) (FP.dmul x0 y1)) (FP.dmul x1 y0)))), ((2 : Int32), (.double (FP.dadd (0 : UInt64) (FP.dmul x0 y2)))), ((1 : Int32), (.double (FP.dadd (0 : UInt64) (FP.dmul x0 y1)))), ((0 : Int32), (.double (FP.dadd (0 : UInt64) (FP.dmul x0 y0))))] [] (.double (0 : UInt64)) := V40
        have N40 := Fr.snoc X40 N39 g_b36
        have K40 : Keep h0 h40 [] := K39.wr W40 (Or.inr sz_b36)
        have Z40 : n0 ≤ h40.size := Nat.le_trans Z39 (Keep.of_wr W40).1
        refine R.iinc X40 hx (hb hby d3_45) rfl (L' := #[.val (.ref a0), .val (.ref a1), .val (.ref b36), .val (.int (1 : Int32)), .val (.int (1 : Int32))]) rfl (pc' := 48) rfl ?_
        refine R.goto X40 hx (hb hby d3_48) (by decide) (pc' := 21) (by decide) ?_
        refine R.iload X40 hx (hb hby d3_21) rfl (pc' := 23) rfl ?_
        refine R.aloadN X40 hx (hb hby d3_23) rfl rfl (pc' := 24) rfl ?_
        refine R.alen X40 hx hZ e40 V_a1 (hb hby d3_24) (pc' := 25) rfl ?_
        refine R.icmpNo X40 hx (hb hby d3_25) (tlt (by decide : (1 : Int32) < (3 : Int32))).2.1 (pc' := 28) rfl ?_
        refine R.aloadN X40 hx (hb hby d3_28) rfl rfl (pc' := 29) rfl ?_
        refine R.iloadN X40 hx (hb hby d3_29) rfl (pc' := 30) rfl ?_
        refine R.iload X40 hx (hb hby d3_30) rfl (pc' := 32) rfl ?_
        refine R.iadd X40 hx (hb hby d3_32) (v := (2 : Int32)) (by decide) (pc' := 33) rfl ?_
        refine R.dup2 X40 hx (hb hby d3_33) rfl rfl (pc' := 34) rfl ?_
        refine R.daload X40 hx hZ e40 V_b36 (⟨by decide, by decide⟩ : ¬ (2 : Int32) < 0 ∧ (2 : Int32) < (5 : Int32)) (v := (.double (FP.dadd (0 : UInt64) (FP.dmul x0 y2)))) (getH_miss ((⟨by decide, by decide⟩ : ¬ (2 : Int32) < 0 ∧ (2 : Int32) < (5 : Int32))).1 (by decide) (getH_hit ((⟨by decide, by decide⟩ : ¬ (2 : Int32) < 0 ∧ (2 : Int32) < (5 : Int32))).1 (rfl))) (hb hby d3_34) (pc' := 35) rfl ?_
        refine R.aloadN X40 hx (hb hby d3_35) rfl rfl (pc' := 36) rfl ?_
        refine R.iloadN X40 hx (hb hby d3_36) rfl (pc' := 37) rfl ?_
        refine R.daload X40 hx hZ e40 V_a0 (⟨by decide, by decide⟩ : ¬ (1 : Int32) < 0 ∧ (1 : Int32) < (3 : Int32)) (v := (.double x1)) (r1_a0 (by decide)) (hb hby d3_37) (pc' := 38) rfl ?_
        refine R.aloadN X40 hx (hb hby d3_38) rfl rfl (pc' := 39) rfl ?_
        refine R.iload X40 hx (hb hby d3_39) rfl (pc' := 41) rfl ?_
        refine R.daload X40 hx hZ e40 V_a1 (⟨by decide, by decide⟩ : ¬ (1 : Int32) < 0 ∧ (1 : Int32) < (3 : Int32)) (v := (.double y1)) (r1_a1 (by decide)) (hb hby d3_41) (pc' := 42) rfl ?_
        refine R.dmul X40 hx (hb hby d3_42) ((Dy.mul (D1_a0 (by decide)) (D1_a1 (by decide)) ((own_ab.mul b1_a0 b1_a1).lt (by decide)) (by decide)).nn : NoNaN64 (FP.dmul x1 y1)) (pc' := 43) rfl ?_
        refine R.dadd X40 hx (hb hby d3_43) ((Dy.add (Dy.add own_zero (Dy.mul (D0_a0) (D2_a1 (by decide)) ((own_ab.mul b0_a0 b2_a1).lt (by decide)) (by decide)) ((own_ab.add own_ab0 (own_ab.mul b0_a0 b2_a1)).lt (by decide)) (by decide)) (Dy.mul (D1_a0 (by decide)) (D1_a1 (by decide)) ((own_ab.mul b1_a0 b1_a1).lt (by decide)) (by decide)) ((own_ab.add (own_ab.add own_ab0 (own_ab.mul b0_a0 b2_a1)) (own_ab.mul b1_a0 b1_a1)).lt (by decide)) (by decide)).nn : NoNaN64 (FP.dadd (FP.dadd (0 : UInt64) (FP.dmul x0 y2)) (FP.dmul x1 y1))) (pc' := 44) rfl ?_
        refine R.dastore X40 hx hZ e40 V_b36 (⟨by decide, by decide⟩ : ¬ (2 : Int32) < 0 ∧ (2 : Int32) < (5 : Int32)) (hb hby d3_44) (pc' := 45) rfl ?_; intro T41 h41 X41 e41 W41 V41
        have V_a0 := V_a0.other W41 ne_a0_b36
        have V_a1 := V_a1.other W41 ne_a1_b36
        have V_b36 : Arh Z h41 b36 k36 .double (5 : Int32) [((2 : Int32), (.double (FP.dadd (FP.dadd (0 : UInt64) (FP.dmul x0 y2)) (FP.dmul x1 y1)))), ((1 : Int32), (.double (FP.dadd (FP.dadd (0 : UInt64) (FP.dmul x0 y1)) (FP.dmul x1 y0)))), ((2 : Int32), (.double (FP.dadd (0 : UInt64) (FP.dmul x0 y2)))), ((1 : Int32), (.double (FP.dadd (0 : UInt64) (FP.dmul x0 y1)))), ((0 : Int32), (.double (FP.dadd (0 : UInt64) (FP.dmul x0 y0))))] [] (.double (0 : UInt64)) := V41
        have N41 := Fr.snoc X41 N40 g_b36
        have K41 : Keep h0 h41 [] := K40.wr W41 (Or.inr sz_b36)
        have Z41 : n0 ≤ h41.size := Nat.le_trans Z40 (Keep.of_wr W41).1
        refine R.iinc X41 hx (hb hby d3_45) rfl (L' := #[.val (.ref a0), .val (.ref a1), .val (.ref b36), .val (.int (1 : Int32)), .val (.int (2 : Int32))]) rfl (pc' := 48) rfl ?_
        refine R.goto X41 hx (hb hby d3_48) (by decide) (pc' := 21) (by decide) ?_
        refine R.iload X41 hx (hb hby d3_21) rfl (pc' := 23) rfl ?_
        refine R.aloadN X41 hx (hb hby d3_23) rfl rfl (pc' := 24) rfl ?_
        refine R.alen X41 hx hZ e41 V_a1 (hb hby d3_24) (pc' := 25) rfl ?_
        refine R.icmpNo X41 hx (hb hby d3_25) (tlt (by decide : (2 : Int32) < (3 : Int32))).2.1 (pc' := 28) rfl ?_
        refine R.aloadN X41 hx (hb hby d3_28) rfl rfl (pc' := 29) rfl ?_
        refine R.iloadN X41 hx (hb hby d3_29) rfl (pc' := 30) rfl ?_
        refine R.iload X41 hx (hb hby d3_30) rfl (pc' := 32) rfl ?_
        refine R.iadd X41 hx (hb hby d3_32) (v := (3 : Int32)) (by decide) (pc' := 33) rfl ?_
        refine R.dup2 X41 hx (hb hby d3_33) rfl rfl (pc' := 34) rfl ?_
        refine R.daload X41 hx hZ e41 V_b36 (⟨by decide, by decide⟩ : ¬ (3 : Int32) < 0 ∧ (3 : Int32) < (5 : Int32)) (v := (.double (0 : UInt64))) (getH_miss ((⟨by decide, by decide⟩ : ¬ (3 : Int32) < 0 ∧ (3 : Int32) < (5 : Int32))).1 (by decide) (getH_miss ((⟨by decide, by decide⟩ : ¬ (3 : Int32) < 0 ∧ (3 : Int32) < (5 : Int32))).1 (by decide) (getH_miss ((⟨by decide, by decide⟩ : ¬ (3 : Int32) < 0 ∧ (3 : Int32) < (5 : Int32))).1 (by decide) (getH_miss ((⟨by decide, by decide⟩ : ¬ (3 : Int32) < 0 ∧ (3 : Int32) < (5 : Int32))).1 (by decide) (getH_miss ((⟨by decide, by decide⟩ : ¬ (3 : Int32) < 0 ∧ (3 : Int32) < (5 : Int32))).1 (by decide) (own_getH_nil _ _)))))) (hb hby d3_34) (pc' := 35) rfl ?_
        refine R.aloadN X41 hx (hb hby d3_35) rfl rfl (pc' := 36) rfl ?_
        refine R.iloadN X41 hx (hb hby d3_36) rfl (pc' := 37) rfl ?_
        refine R.daload X41 hx hZ e41 V_a0 (⟨by decide, by decide⟩ : ¬ (1 : Int32) < 0 ∧ (1 : Int32) < (3 : Int32)) (v := (.double x1)) (r1_a0 (by decide)) (hb hby d3_37) (pc' := 38) rfl ?_
        refine R.aloadN X41 hx (hb hby d3_38) rfl rfl (pc' := 39) rfl ?_
        refine R.iload X41 hx (hb hby d3_39) rfl (pc' := 41) rfl ?_
        refine R.daload X41 hx hZ e41 V_a1 (⟨by decide, by decide⟩ : ¬ (2 : Int32) < 0 ∧ (2 : Int32) < (3 : Int32)) (v := (.double y2)) (r2_a1 (by decide)) (hb hby d3_41) (pc' := 42) rfl ?_
        refine R.dmul X41 hx (hb hby d3_42) ((Dy.mul (D1_a0 (by decide)) (D2_a1 (by decide)) ((own_ab.mul b1_a0 b2_a1).lt (by decide)) (by decide)).nn : NoNaN64 (FP.dmul x1 y2)) (pc' := 43) rfl ?_
        refine R.dadd X41 hx (hb hby d3_43) ((Dy.add own_zero (Dy.mul (D1_a0 (by decide)) (D2_a1 (by decide)) ((own_ab.mul b1_a0 b2_a1).lt (by decide)) (by decide)) ((own_ab.add own_ab0 (own_ab.mul b1_a0 b2_a1)).lt (by decide)) (by decide)).nn : NoNaN64 (FP.dadd (0 : UInt64) (FP.dmul x1 y2))) (pc' := 44) rfl ?_
        refine R.dastore X41 hx hZ e41 V_b36 (⟨by decide, by decide⟩ : ¬ (3 : Int32) < 0 ∧ (3 : Int32) < (5 : Int32)) (hb hby d3_44) (pc' := 45) rfl ?_; intro T42 h42 X42 e42 W42 V42
        have V_a0 := V_a0.other W42 ne_a0_b36
        have V_a1 := V_a1.other W42 ne_a1_b36
        have V_b36 : Arh Z h42 b36 k36 .double (5 : Int32) [((3 : Int32), (.double (FP.dadd (0 : UInt64) (FP.dmul x1 y2)))), ((2 : Int32), (.double (FP.dadd (FP.dadd (0 : UInt64) (FP.dmul x0 y2)) (FP.dmul x1 y1)))), ((1 : Int32), (.double (FP.dadd (FP.dadd (0 : UInt64) (FP.dmul x0 y1)) (FP.dmul x1 y0)))), ((2 : Int32), (.double (FP.dadd (0 : UInt64) (FP.dmul x0 y2)))), ((1 : Int32), (.double (FP.dadd (0 : UInt64) (FP.dmul x0 y1)))), ((0 : Int32), (.double (FP.dadd (0 : UInt64) (FP.dmul x0 y0))))] [] (.double (0 : UInt64)) := V42
        have N42 := Fr.snoc X42 N41 g_b36
        have K42 : Keep h0 h42 [] := K41.wr W42 (Or.inr sz_b36)
        have Z42 : n0 ≤ h42.size := Nat.le_trans Z41 (Keep.of_wr W42).1
        refine R.iinc X42 hx (hb hby d3_45) rfl (L' := #[.val (.ref a0), .val (.ref a1), .val (.ref b36), .val (.int (1 : Int32)), .val (.int (3 : Int32))]) rfl (pc' := 48) rfl ?_
        refine R.goto X42 hx (hb hby d3_48) (by decide) (pc' := 21) (by decide) ?_
        refine R.iload X42 hx (hb hby d3_21) rfl (pc' := 23) rfl ?_
        refine R.aloadN X42 hx (hb hby d3_23) rfl rfl (pc' := 24) rfl ?_
        refine R.alen X42 hx hZ e42 V_a1 (hb hby d3_24) (pc' := 25) rfl ?_
        refine R.icmpYes X42 hx (hb hby d3_25) (flt (by decide : ¬ ((3 : Int32) < (3 : Int32)))).2.1 (by decide) (pc' := 51) (by decide) ?_
        refine R.iinc X42 hx (hb hby d3_51) rfl (L' := #[.val (.ref a0), .val (.ref a1), .val (.ref b36), .val (.int (2 : Int32)), .val (.int (3 : Int32))]) rfl (pc' := 54) rfl ?_
        refine R.goto X42 hx (hb hby d3_54) (by decide) (pc' := 12) (by decide) ?_
        refine R.iloadN X42 hx (hb hby d3_12) rfl (pc' := 13) rfl ?_
        refine R.aloadN X42 hx (hb hby d3_13) rfl rfl (pc' := 14) rfl ?_
        refine R.alen X42 hx hZ e42 V_a0 (hb hby d3_14) (pc' := 15) rfl ?_
        refine R.icmpNo X42 hx (hb hby d3_15) (tlt (by decide : (2 : Int32) < (3 : Int32))).2.1 (pc' := 18) rfl ?_
        refine R.iconst X42 hx (hb hby d3_18) (v := (0 : Int32)) (by decide) (pc' := 19) rfl ?_
        refine R.istore X42 hx (hb hby d3_19) (L' := #[.val (.ref a0), .val (.ref a1), .val (.ref b36), .val (.int (2 : Int32)), .val (.int (0 : Int32))]) rfl (pc' := 21) rfl ?_
        refine R.iload X42 hx (hb hby d3_21) rfl (pc' := 23) rfl ?_
        refine R.aloadN X42 hx (hb hby d3_23) rfl rfl (pc' := 24) rfl ?_
        refine R.alen X42 hx hZ e42 V_a1 (hb hby d3_24) (pc' := 25) rfl ?_
        refine R.icmpNo X42 hx (hb hby d3_25) (tlt (by decide : (0 : Int32) < (3 : Int32))).2.1 (pc' := 28) rfl ?_
        refine R.aloadN X42 hx (hb hby d3_28) rfl rfl (pc' := 29) rfl ?_
        refine R.iloadN X42 hx (hb hby d3_29) rfl (pc' := 30) rfl ?_
        refine R.iload X42 hx (hb hby d3_30) rfl (pc' := 32) rfl ?_
        refine R.iadd X42 hx (hb hby d3_32) (v := (2 : Int32)) (by decide) (pc' := 33) rfl ?_
        refine R.dup2 X42 hx (hb hby d3_33) rfl rfl (pc' := 34) rfl ?_
        refine R.daload X42 hx hZ e42 V_b36 (⟨by decide, by decide⟩ : ¬ (2 : Int32) < 0 ∧ (2 : Int32) < (5 : Int32)) (v := (.double (FP.dadd (FP.dadd (0 : UInt64) (FP.dmul x0 y2)) (FP.dmul x1 y1)))) (getH_miss ((⟨by decide, by decide⟩ : ¬ (2 : Int32) < 0 ∧ (2 : Int32) < (5 : Int32))).1 (by decide) (getH_hit ((⟨by decide, by decide⟩ : ¬ (2 : Int32) < 0 ∧ (2 : Int32) < (5 : Int32))).1 (rfl))) (hb hby d3_34) (pc' := 35) rfl ?_
        refine R.aloadN X42 hx (hb hby d3_35) rfl rfl (pc' := 36) rfl ?_
        refine R.iloadN X42 hx (hb hby d3_36) rfl (pc' := 37) rfl ?_
        refine R.daload X42 hx hZ e42 V_a0 (⟨by decide, by decide⟩ : ¬ (2 : Int32) < 0 ∧ (2 : Int32) < (3 : Int32)) (v := (.double x2)) (r2_a0 (by decide)) (hb hby d3_37) (pc' := 38) rfl ?_
        refine R.aloadN X42 hx (hb hby d3_38) rfl rfl (pc' := 39) rfl ?_
        refine R.iload X42 hx (hb hby d3_39) rfl (pc' := 41) rfl ?_
        refine R.daload X42 hx hZ e42 V_a1 (⟨by decide, by decide⟩ : ¬ (0 : Int32) < 0 ∧ (0 : Int32) < (3 : Int32)) (v := (.double y0)) (r0_a1) (hb hby d3_41) (pc' := 42) rfl ?_
        refine R.dmul X42 hx (hb hby d3_42) ((Dy.mul (D2_a0 (by decide)) (D0_a1) ((own_ab.mul b2_a0 b0_a1).lt (by decide)) (by decide)).nn : NoNaN64 (FP.dmul x2 y0)) (pc' := 43) rfl ?_
        refine R.dadd X42 hx (hb hby d3_43) ((Dy.add (Dy.add (Dy.add own_zero (Dy.mul (D0_a0) (D2_a1 (by decide)) ((own_ab.mul b0_a0 b2_a1).lt (by decide)) (by decide)) ((own_ab.add own_ab0 (own_ab.mul b0_a0 b2_a1)).lt (by decide)) (by decide)) (Dy.mul (D1_a0 (by decide)) (D1_a1 (by decide)) ((own_ab.mul b1_a0 b1_a1).lt (by decide)) (by decide)) ((own_ab.add (own_ab.add own_ab0 (own_ab.mul b0_a0 b2_a1)) (own_ab.mul b1_a0 b1_a1)).lt (by decide)) (by decide)) (Dy.mul (D2_a0 (by decide)) (D0_a1) ((own_ab.mul b2_a0 b0_a1).lt (by decide)) (by decide)) ((own_ab.add (own_ab.add (own_ab.add own_ab0 (own_ab.mul b0_a0 b2_a1)) (own_ab.mul b1_a0 b1_a1)) (own_ab.mul b2_a0 b0_a1)).lt (by decide)) (by decide)).nn : NoNaN64 (FP.dadd (FP.dadd (FP.dadd (0 : UInt64) (FP.dmul x0 y2)) (FP.dmul x1 y1)) (FP.dmul x2 y0))) (pc' := 44) rfl ?_
        refine R.dastore X42 hx hZ e42 V_b36 (⟨by decide, by decide⟩ : ¬ (2 : Int32) < 0 ∧ (2 : Int32) < (5 : Int32)) (hb hby d3_44) (pc' := 45) rfl ?_; intro T43 h43 X43 e43 W43 V43
        have V_a0 := V_a0.other W43 ne_a0_b36
        have V_a1 := V_a1.other W43 ne_a1_b36
        have V_b36 : Arh Z h43 b36 k36 .double (5 : Int32) [((2 : Int32), (.double (FP.dadd (FP.dadd (FP.dadd (0 : UInt64) (FP.dmul x0 y2)) (FP.dmul x1 y1)) (FP.dmul x2 y0)))), ((3 : Int32), (.double (FP.dadd (0 : UInt64) (FP.dmul x1 y2)))), ((2 : Int32), (.double (FP.dadd (FP.dadd (0 : UInt64) (FP.dmul x0 y2)) (FP.dmul x1 y1)))), ((1 : Int32), (.double (FP.dadd (FP.dadd (0 : UInt64) (FP.dmul x0 y1)) (FP.dmul x1 y0)))), ((2 : Int32), (.double (FP.dadd (0 : UInt64) (FP.dmul x0 y2)))), ((1 : Int32), (.double (FP.dadd (0 : UInt64) (FP.dmul x0 y1)))), ((0 : Int32), (.double (FP.dadd (0 : UInt64) (FP.dmul x0 y0))))] [] (.double (0 : UInt64)) := V43
        have N43 := Fr.snoc X43 N42 g_b36
        have K43 : Keep h0 h43 [] := K42.wr W43 (Or.inr sz_b36)
        have Z43 : n0 ≤ h43.size := Nat.le_trans Z42 (Keep.of_wr W43).1
        refine R.iinc X43 hx (hb hby d3_45) rfl (L' := #[.val (.ref a0), .val (.ref a1), .val (.ref b36), .val (.int (2 : Int32)), .val (.int (1 : Int32))]) rfl (pc' := 48) rfl ?_
        refine R.goto X43 hx (hb hby d3_48) (by decide) (pc' := 21) (by decide) ?_
        refine R.iload X43 hx (hb hby d3_21) rfl (pc' := 23) rfl ?_
        refine R.aloadN X43 hx (hb hby d3_23) rfl rfl (pc' := 24) rfl ?_
        refine R.alen X43 hx hZ e43 V_a1 (hb hby d3_24) (pc' := 25) rfl ?_
        refine R.icmpNo X43 hx (hb hby d3_25) (tlt (by decide : (1 : Int32) < (3 : Int32))).2.1 (pc' := 28) rfl ?_
        refine R.aloadN X43 hx (hb hby d3_28) rfl rfl (pc' := 29) rfl ?_
        refine R.iloadN X43 hx (hb hby d3_29) rfl (pc' := 30) rfl ?_
        refine R.iload X43 hx (hb hby d3_30) rfl (pc' := 32) rfl ?_
        refine R.iadd X43 hx (hb hby d3_32) (v := (3 : Int32)) (by decide) (pc' := 33) rfl ?_
        refine R.dup2 X43 hx (hb hby d3_33) rfl rfl (pc' := 34) rfl ?_
        refine R.daload X43 hx hZ e43 V_b36 (⟨by decide, by decide⟩ : ¬ (3 : Int32) < 0 ∧ (3 : Int32) < (5 : Int32)) (v := (.double (FP.dadd (0 : UInt64) (FP.dmul x1 y2)))) (getH_miss ((⟨by decide, by decide⟩ : ¬ (3 : Int32) < 0 ∧ (3 : Int32) < (5 : Int32))).1 (by decide) (getH_hit ((⟨by decide, by decide⟩ : ¬ (3 : Int32) < 0 ∧ (3 : Int32) < (5 : Int32))).1 (rfl))) (hb hby d3_34) (pc' := 35) rfl ?_
        refine R.aloadN X43 hx (hb hby d3_35) rfl rfl (pc' := 36) rfl ?_
        refine R.iloadN X43 hx (hb hby d3_36) rfl (pc' := 37) rfl ?_
        refine R.daload X43 hx hZ e43 V_a0 (⟨by decide, by decide⟩ : ¬ (2 : Int32) < 0 ∧ (2 : Int32) < (3 : Int32)) (v := (.double x2)) (r2_a0 (by decide)) (hb hby d3_37) (pc' := 38) rfl ?_
        refine R.aloadN X43 hx (hb hby d3_38) rfl rfl (pc' := 39) rfl ?_
        refine R.iload X43 hx (hb hby d3_39) rfl (pc' := 41) rfl ?_
        refine R.daload X43 hx hZ e43 V_a1 (⟨by decide, by decide⟩ : ¬ (1 : Int32) < 0 ∧ (1 : Int32) < (3 : Int32)) (v := (.double y1)) (r1_a1 (by decide)) (hb hby d3_41) (pc' := 42) rfl ?_
        refine R.dmul X43 hx (hb hby d3_42) ((Dy.mul (D2_a0 (by decide)) (D1_a1 (by decide)) ((own_ab.mul b2_a0 b1_a1).lt (by decide)) (by decide)).nn : NoNaN64 (FP.dmul x2 y1)) (pc' := 43) rfl ?_
        refine R.dadd X43 hx (hb hby d3_43) ((Dy.add (Dy.add own_zero (Dy.mul (D1_a0 (by decide)) (D2_a1 (by decide)) ((own_ab.mul b1_a0 b2_a1).lt (by decide)) (by decide)) ((own_ab.add own_ab0 (own_ab.mul b1_a0 b2_a1)).lt (by decide)) (by decide)) (Dy.mul (D2_a0 (by decide)) (D1_a1 (by decide)) ((own_ab.mul b2_a0 b1_a1).lt (by decide)) (by decide)) ((own_ab.add (own_ab.add own_ab0 (own_ab.mul b1_a0 b2_a1)) (own_ab.mul b2_a0 b1_a1)).lt (by decide)) (by decide)).nn : NoNaN64 (FP.dadd (FP.dadd (0 : UInt64) (FP.dmul x1 y2)) (FP.dmul x2 y1))) (pc' := 44) rfl ?_
        refine R.dastore X43 hx hZ e43 V_b36 (⟨by decide, by decide⟩ : ¬ (3 : Int32) < 0 ∧ (3 : Int32) < (5 : Int32)) (hb hby d3_44) (pc' := 45) rfl ?_; intro T44 h44 X44 e44 W44 V44
        have V_a0 := V_a0.other W44 ne_a0_b36
        have V_a1 := V_a1.other W44 ne_a1_b36
        have V_b36 : Arh Z h44 b36 k36 .double (5 : Int32) [((3 : Int32), (.double (FP.dadd (FP.dadd (0 : UInt64) (FP.dmul x1 y2)) (FP.dmul x2 y1)))), ((2 : Int32), (.double (FP.dadd (FP.dadd (FP.dadd (0 : UInt64) (FP.dmul x0 y2)) (FP.dmul x1 y1)) (FP.dmul x2 y0)))), ((3 : Int32), (.double (FP.dadd (0 : UInt64) (FP.dmul x1 y2)))), ((2 : Int32), (.double (FP.dadd (FP.dadd (0 : UInt64) (FP.dmul x0 y2)) (FP.dmul x1 y1)))), ((1 : Int32), (.double (FP.dadd (FP.dadd (0 : UInt64) (FP.dmul x0 y1)) (FP.dmul x1 y0)))), ((2 : Int32), (.double (FP.dadd (0 : UInt64) (FP.dmul x0 y2)))), ((1 : Int32), (.double (FP.dadd (0 : UInt64) (FP.dmul x0 y1)))), ((0 : Int32), (.double (FP.dadd (0 : UInt64) (FP.dmul x0 y0))))] [] (.double (0 : UInt64)) := V44
        have N44 := Fr.snoc X44 N43 g_b36
        have K44 : Keep h0 h44 [] := K43.wr W44 (Or.inr sz_b36)
        have Z44 : n0 ≤ h44.size := Nat.le_trans Z43 (Keep.of_wr W44).1
        refine R.iinc X44 hx (hb hby d3_45) rfl (L' := #[.val (.ref a0), .val (.ref a1), .val (.ref b36), .val (.int (2 : Int32)), .val (.int (2 : Int32))]) rfl (pc' := 48) rfl ?_
        refine R.goto X44 hx (hb hby d3_48) (by decide) (pc' := 21) (by decide) ?_
        refine R.iload X44 hx (hb hby d3_21) rfl (pc' := 23) rfl ?_
        refine R.aloadN X44 hx (hb hby d3_23) rfl rfl (pc' := 24) rfl ?_
        refine R.alen X44 hx hZ e44 V_a1 (hb hby d3_24) (pc' := 25) rfl ?_
        refine R.icmpNo X44 hx (hb hby d3_25) (tlt (by decide : (2 : Int32) < (3 : Int32))).2.1 (pc' := 28) rfl ?_
        refine R.aloadN X44 hx (hb hby d3_28) rfl rfl (pc' := 29) rfl ?_
        refine R.iloadN X44 hx (hb hby d3_29) rfl (pc' := 30) rfl ?_
        refine R.iload X44 hx (hb hby d3_30) rfl (pc' := 32) rfl ?_
        refine R.iadd X44 hx (hb hby d3_32) (v := (4 : Int32)) (by decide) (pc' := 33) rfl ?_
        refine R.dup2 X44 hx (hb hby d3_33) rfl rfl (pc' := 34) rfl ?_
        refine R.daload X44 hx hZ e44 V_b36 (⟨by decide, by decide⟩ : ¬ (4 : Int32) < 0 ∧ (4 : Int32) < (5 : Int32)) (v := (.double (0 : UInt64))) (getH_miss ((⟨by decide, by decide⟩ : ¬ (4 : Int32) < 0 ∧ (4 : Int32) < (5 : Int32))).1 (by decide) (getH_miss ((⟨by decide, by decide⟩ : ¬ (4 : Int32) < 0 ∧ (4 : Int32) < (5 : Int32))).1 (by decide) (getH_miss ((⟨by decide, by decide⟩ : ¬ (4 : Int32) < 0 ∧ (4 : Int32) < (5 : Int32))).1 (by decide) (getH_miss ((⟨by decide, by decide⟩ : ¬ (4 : Int32) < 0 ∧ (4 : Int32) < (5 : Int32))).1 (by decide) (getH_miss ((⟨by decide, by decide⟩ : ¬ (4 : Int32) < 0 ∧ (4 : Int32) < (5 : Int32))).1 (by decide) (getH_miss ((⟨by decide, by decide⟩ : ¬ (4 : Int32) < 0 ∧ (4 : Int32) < (5 : Int32))).1 (by decide) (getH_miss ((⟨by decide, by decide⟩ : ¬ (4 : Int32) < 0 ∧ (4 : Int32) < (5 : Int32))).1 (by decide) (getH_miss ((⟨by decide, by decide⟩ : ¬ (4 : Int32) < 0 ∧ (4 : Int32) < (5 : Int32))).1 (by decide) (own_getH_nil _ _))))))))) (hb hby d3_34) (pc' := 35) rfl ?_
        refine R.aloadN X44 hx (hb hby d3_35) rfl rfl (pc' := 36) rfl ?_
        refine R.iloadN X44 hx (hb hby d3_36) rfl (pc' := 37) rfl ?_
        refine R.daload X44 hx hZ e44 V_a0 (⟨by decide, by decide⟩ : ¬ (2 : Int32) < 0 ∧ (2 : Int32) < (3 : Int32)) (v := (.double x2)) (r2_a0 (by decide)) (hb hby d3_37) (pc' := 38) rfl ?_
        refine R.aloadN X44 hx (hb hby d3_38) rfl rfl (pc' := 39) rfl ?_
        refine R.iload X44 hx (hb hby d3_39) rfl (pc' := 41) rfl ?_
        refine R.daload X44 hx hZ e44 V_a1 (⟨by decide, by decide⟩ : ¬ (2 : Int32) < 0 ∧ (2 : Int32) < (3 : Int32)) (v := (.double y2)) (r2_a1 (by decide)) (hb hby d3_41) (pc' := 42) rfl ?_
        refine R.dmul X44 hx (hb hby d3_42) ((Dy.mul (D2_a0 (by decide)) (D2_a1 (by decide)) ((own_ab.mul b2_a0 b2_a1).lt (by decide)) (by decide)).nn : NoNaN64 (FP.dmul x2 y2)) (pc' := 43) rfl ?_
        refine R.dadd X44 hx (hb hby d3_43) ((Dy.add own_zero (Dy.mul (D2_a0 (by decide)) (D2_a1 (by decide)) ((own_ab.mul b2_a0 b2_a1).lt (by decide)) (by decide)) ((own_ab.add own_ab0 (own_ab.mul b2_a0 b2_a1)).lt (by decide)) (by decide)).nn : NoNaN64 (FP.dadd (0 : UInt64) (FP.dmul x2 y2))) (pc' := 44) rfl ?_
        refine R.dastore X44 hx hZ e44 V_b36 (⟨by decide, by decide⟩ : ¬ (4 : Int32) < 0 ∧ (4 : Int32) < (5 : Int32)) (hb hby d3_44) (pc' := 45) rfl ?_; intro T45 h45 X45 e45 W45 V45
        have V_a0 := V_a0.other W45 ne_a0_b36
        have V_a1 := V_a1.other W45 ne_a1_b36
        have V_b36 : Arh Z h45 b36 k36 .double (5 : Int32) [((4 : Int32), (.double (FP.dadd (0 : UInt64) (FP.dmul x2 y2)))), ((3 : Int32), (.double (FP.dadd (FP.dadd (0 : UInt64) (FP.dmul x1 y2)) (FP.dmul x2 y1)))), ((2 : Int32), (.double (FP.dadd (FP.dadd (FP.dadd (0 : UInt64) (FP.dmul x0 y2)) (FP.dmul x1 y1)) (FP.dmul x2 y0)))), ((3 : Int32), (.double (FP.dadd (0 : UInt64) (FP.dmul x1 y2)))), ((2 : Int32), (.double (FP.dadd (FP.dadd (0 : UInt64) (FP.dmul x0 y2)) (FP.dmul x1 y1)))), ((1 : Int32), (.double (FP.dadd (FP.dadd (0 : UInt64) (FP.dmul x0 y1)) (FP.dmul x1 y0)))), ((2 : Int32), (.double (FP.dadd (0 : UInt64) (FP.dmul x0 y2)))), ((1 : Int32), (.double (FP.dadd (0 : UInt64) (FP.dmul x0 y1)))), ((0 : Int32), (.double (FP.dadd (0 : UInt64) (FP.dmul x0 y0))))] [] (.double (0 : UInt64)) := V45
        have N45 := Fr.snoc X45 N44 g_b36
        have K45 : Keep h0 h45 [] := K44.wr W45 (Or.inr sz_b36)
        have Z45 : n0 ≤ h45.size := Nat.le_trans Z44 (Keep.of_wr W45).1
        refine R.iinc X45 hx (hb hby d3_45) rfl (L' := #[.val (.ref a0), .val (.ref a1), .val (.ref b36), .val (.int (2 : Int32)), .val (.int (3 : Int32))]) rfl (pc' := 48) rfl ?_
        refine R.goto X45 hx (hb hby d3_48) (by decide) (pc' := 21) (by decide) ?_
        refine R.iload X45 hx (hb hby d3_21) rfl (pc' := 23) rfl ?_
        refine R.aloadN X45 hx (hb hby d3_23) rfl rfl (pc' := 24) rfl ?_
        refine R.alen X45 hx hZ e45 V_a1 (hb hby d3_24) (pc' := 25) rfl ?_
        refine R.icmpYes X45 hx (hb hby d3_25) (flt (by decide : ¬ ((3 : Int32) < (3 : Int32)))).2.1 (by decide) (pc' := 51) (by decide) ?_
        refine R.iinc X45 hx (hb hby d3_51) rfl (L' := #[.val (.ref a0), .val (.ref a1), .val (.ref b36), .val (.int (3 : Int32)), .val (.int (3 : Int32))]) rfl (pc' := 54) rfl ?_
        refine R.goto X45 hx (hb hby d3_54) (by decide) (pc' := 12) (by decide) ?_
        refine R.iloadN X45 hx (hb hby d3_12) rfl (pc' := 13) rfl ?_
        refine R.aloadN X45 hx (hb hby d3_13) rfl rfl (pc' := 14) rfl ?_
        refine R.alen X45 hx hZ e45 V_a0 (hb hby d3_14) (pc' := 15) rfl ?_
        refine R.icmpYes X45 hx (hb hby d3_15) (flt (by decide : ¬ ((3 : Int32) < (3 : Int32)))).2.1 (by decide) (pc' := 57) (by decide) ?_
        refine R.aloadN X45 hx (hb hby d3_57) rfl rfl (pc' := 58) rfl ?_
        rw [← hG]
        exact Rn.ret X45 (BodyLoose.notSynchronized Bd) (v := some (.ref b36)) (fun h => by rw [Bd.returns] at h; cases h) (Q := Q3 Z a0 a1 ka kb (3 : Int32) (3 : Int32) ha hbb x0 x1 x2 y0 y1 y2 A0 A1 A2 B0 B1 B2 h0 n0) e45 (fun fs hr => retOut X45 hx (t := (.array .double)) Bd.returns rfl (Or.inr (Or.inr (Or.inr (Or.inr ⟨rfl, rfl, rfl⟩)))) (hb hby d3_58) hr) ⟨b36, k36, [((4 : Int32), (.double (FP.dadd (0 : UInt64) (FP.dmul x2 y2)))), ((3 : Int32), (.double (FP.dadd (FP.dadd (0 : UInt64) (FP.dmul x1 y2)) (FP.dmul x2 y1)))), ((2 : Int32), (.double (FP.dadd (FP.dadd (FP.dadd (0 : UInt64) (FP.dmul x0 y2)) (FP.dmul x1 y1)) (FP.dmul x2 y0)))), ((3 : Int32), (.double (FP.dadd (0 : UInt64) (FP.dmul x1 y2)))), ((2 : Int32), (.double (FP.dadd (FP.dadd (0 : UInt64) (FP.dmul x0 y2)) (FP.dmul x1 y1)))), ((1 : Int32), (.double (FP.dadd (FP.dadd (0 : UInt64) (FP.dmul x0 y1)) (FP.dmul x1 y0)))), ((2 : Int32), (.double (FP.dadd (0 : UInt64) (FP.dmul x0 y2)))), ((1 : Int32), (.double (FP.dadd (0 : UInt64) (FP.dmul x0 y1)))), ((0 : Int32), (.double (FP.dadd (0 : UInt64) (FP.dmul x0 y0))))], rfl, N45, K45, sz_b36, V_b36, (fun _ => ⟨_, getH_miss (by decide) (by decide) (getH_miss (by decide) (by decide) (getH_miss (by decide) (by decide) (getH_miss (by decide) (by decide) (getH_miss (by decide) (by decide) (getH_miss (by decide) (by decide) (getH_miss (by decide) (by decide) (getH_miss (by decide) (by decide) (getH_hit (by decide) (rfl))))))))), Dy.cast (Dy.add own_zero (Dy.mul (D0_a0) (D0_a1) ((own_ab.mul b0_a0 b0_a1).lt (by decide)) (by decide)) ((own_ab.add own_ab0 (own_ab.mul b0_a0 b0_a1)).lt (by decide)) (by decide)) (by omega) rfl⟩), (fun _ => ⟨_, getH_miss (by decide) (by decide) (getH_miss (by decide) (by decide) (getH_miss (by decide) (by decide) (getH_miss (by decide) (by decide) (getH_miss (by decide) (by decide) (getH_hit (by decide) (rfl)))))), Dy.cast (Dy.add (Dy.add own_zero (Dy.mul (D0_a0) (D1_a1 (by decide)) ((own_ab.mul b0_a0 b1_a1).lt (by decide)) (by decide)) ((own_ab.add own_ab0 (own_ab.mul b0_a0 b1_a1)).lt (by decide)) (by decide)) (Dy.mul (D1_a0 (by decide)) (D0_a1) ((own_ab.mul b1_a0 b0_a1).lt (by decide)) (by decide)) ((own_ab.add (own_ab.add own_ab0 (own_ab.mul b0_a0 b1_a1)) (own_ab.mul b1_a0 b0_a1)).lt (by decide)) (by decide)) (by omega) rfl⟩), (fun _ => ⟨_, getH_miss (by decide) (by decide) (getH_miss (by decide) (by decide) (getH_hit (by decide) (rfl))), Dy.cast (Dy.add (Dy.add (Dy.add own_zero (Dy.mul (D0_a0) (D2_a1 (by decide)) ((own_ab.mul b0_a0 b2_a1).lt (by decide)) (by decide)) ((own_ab.add own_ab0 (own_ab.mul b0_a0 b2_a1)).lt (by decide)) (by decide)) (Dy.mul (D1_a0 (by decide)) (D1_a1 (by decide)) ((own_ab.mul b1_a0 b1_a1).lt (by decide)) (by decide)) ((own_ab.add (own_ab.add own_ab0 (own_ab.mul b0_a0 b2_a1)) (own_ab.mul b1_a0 b1_a1)).lt (by decide)) (by decide)) (Dy.mul (D2_a0 (by decide)) (D0_a1) ((own_ab.mul b2_a0 b0_a1).lt (by decide)) (by decide)) ((own_ab.add (own_ab.add (own_ab.add own_ab0 (own_ab.mul b0_a0 b2_a1)) (own_ab.mul b1_a0 b1_a1)) (own_ab.mul b2_a0 b0_a1)).lt (by decide)) (by decide)) (by omega) rfl⟩), (fun _ => ⟨_, getH_miss (by decide) (by decide) (getH_hit (by decide) (rfl)), Dy.cast (Dy.add (Dy.add own_zero (Dy.mul (D1_a0 (by decide)) (D2_a1 (by decide)) ((own_ab.mul b1_a0 b2_a1).lt (by decide)) (by decide)) ((own_ab.add own_ab0 (own_ab.mul b1_a0 b2_a1)).lt (by decide)) (by decide)) (Dy.mul (D2_a0 (by decide)) (D1_a1 (by decide)) ((own_ab.mul b2_a0 b1_a1).lt (by decide)) (by decide)) ((own_ab.add (own_ab.add own_ab0 (own_ab.mul b1_a0 b2_a1)) (own_ab.mul b2_a0 b1_a1)).lt (by decide)) (by decide)) (by omega) rfl⟩), (fun _ => ⟨_, getH_hit (by decide) (rfl), Dy.cast (Dy.add own_zero (Dy.mul (D2_a0 (by decide)) (D2_a1 (by decide)) ((own_ab.mul b2_a0 b2_a1).lt (by decide)) (by decide)) ((own_ab.add own_ab0 (own_ab.mul b2_a0 b2_a1)).lt (by decide)) (by decide)) (by omega) rfl⟩)⟩ (by decide) (by decide)
  exact (Rn.st (fun t k => castTop (ef_3 m a0 a1) k) first_ : Rn p e below (s₁.setTop (entryFrame m #[(.ref a0), (.ref a1)] 5)) (Fn3 Z a0 a1 ka kb la lb ha hbb x0 x1 x2 y0 y1 y2 A0 A1 A2 B0 B1 B2 h0 n0 s))
theorem d4_0 : decode method_4_code 0 = .ok (.iload_n 1, 1) := by decide +kernel
theorem d4_1 : decode method_4_code 1 = .ok (.aload_n 0, 1) := by decide +kernel
theorem d4_2 : decode method_4_code 2 = .ok (.arraylength, 1) := by decide +kernel
theorem d4_3 : decode method_4_code 3 = .ok (.if_icmp .lt 15, 3) := by decide +kernel
theorem d4_18 : decode method_4_code 18 = .ok (.aload_n 0, 1) := by decide +kernel
theorem d4_19 : decode method_4_code 19 = .ok (.iload_n 1, 1) := by decide +kernel
theorem d4_20 : decode method_4_code 20 = .ok (.daload, 1) := by decide +kernel
theorem d4_21 : decode method_4_code 21 = .ok (.lload_n 2, 1) := by decide +kernel
theorem d4_22 : decode method_4_code 22 = .ok (.l2d, 1) := by decide +kernel
theorem d4_23 : decode method_4_code 23 = .ok (.dcmp .l, 1) := by decide +kernel
theorem d4_24 : decode method_4_code 24 = .ok (.ifCond .ne 7, 3) := by decide +kernel
theorem d4_27 : decode method_4_code 27 = .ok (.iconst 1, 1) := by decide +kernel
theorem d4_28 : decode method_4_code 28 = .ok (.goto 4, 3) := by decide +kernel
theorem d4_32 : decode method_4_code 32 = .ok (.ireturn, 1) := by decide +kernel
theorem d4_6 : decode method_4_code 6 = .ok (.lload_n 2, 1) := by decide +kernel
theorem d4_7 : decode method_4_code 7 = .ok (.lconst 0, 1) := by decide +kernel
theorem d4_8 : decode method_4_code 8 = .ok (.lcmp, 1) := by decide +kernel
theorem d4_9 : decode method_4_code 9 = .ok (.ifCond .ne 7, 3) := by decide +kernel
theorem d4_12 : decode method_4_code 12 = .ok (.iconst 1, 1) := by decide +kernel
theorem d4_13 : decode method_4_code 13 = .ok (.goto 4, 3) := by decide +kernel
theorem d4_17 : decode method_4_code 17 = .ok (.ireturn, 1) := by decide +kernel
theorem ef_4 (m : MethodId) (x0 : Addr) (x1 : Int32) (x2 : Int64) : entryFrame m #[(.ref x0), (.int x1), (.long x2)] 4 = mkF m 0 #[.val (.ref x0), .val (.int x1), .val (.long x2), .second] [] := by first | (simp [entryFrame, mkF, argsToLocals, Value.category]; done) | rfl
def Q4 (Z : State) (a0 : Addr) (p1 : Int32) (q2 : Int64) (kr : ClassId) (z : Int32) (hr : List (Int32 × Value)) (h0 : Heap) (n0 : Nat) (vQ : Option Value) (hQ_ : Heap) (LQ : List Loc) : Prop := vQ = some (.int (1 : Int32)) ∧ Fr n0 LQ ∧ hQ_ = h0
def Fn4 (Z : State) (a0 : Addr) (p1 : Int32) (q2 : Int64) (kr : ClassId) (z : Int32) (hr : List (Int32 × Value)) (h0 : Heap) (n0 : Nat) (sQ : State) (oQ : Outcome) (UQ : State) : Prop := ∃ vQ LQ, oQ = .returned vQ ∧ Q4 Z a0 p1 q2 kr z hr h0 n0 vQ UQ.heap LQ ∧ FrameEnd sQ oQ UQ LQ ({ frames := 0, cells := 0, slots := 0, locals := 0 } : Room).cells ({ frames := 0, cells := 0, slots := 0, locals := 0 } : Room).slots
set_option maxRecDepth 65536 in
set_option maxHeartbeats 40000000 in
theorem rm4 (l : Launch) (Z : State) (aZ : Array Value) (hw : ∀ d ∈ tables_1, d.before aZ Z = true) (ws : List Jvm.Cond) (a0 : Addr) (p1 : Int32) (q2 : Int64) (kr : ClassId) (z : Int32) (hr : List (Int32 × Value)) (h0 : Heap) (n0 : Nat) (Z0 : n0 ≤ h0.size) (V_a0 : Arh Z h0 a0 kr .double z hr [] (.double (0 : UInt64))) (hk : 0 ≤ p1.toInt) (rd : p1 < z → ∃ v : UInt64, getH hr [] (.double (0 : UInt64)) (p1).toNatClampNeg = (.double v) ∧ Dy v q2.toInt 0) (rz : ¬ p1 < z → q2.toInt = 0) (hb_ : q2.toInt.natAbs < 9007199254740992) :
    MetFree l (⟨"com/example/deseason/deseason/arima/PolynomialsMultiplyPinLaw", "entry", "([DIJ)Z"⟩ : MethodName) (head1 (Jvm.Cond.code (⟨"com/example/deseason/deseason/arima/PolynomialsMultiplyPinLaw", "entry", "([DIJ)Z"⟩ : MethodName) method_4_code 4 (some .boolean) :: ws) ({ frames := 0, cells := 0, slots := 0, locals := 0 } : Room)) (fun aQ UQ => aQ = #[(.ref a0), (.int p1), (.long q2)] ∧ Z.Warmed39 UQ.vm ∧ UQ.heap = h0) (fun _ _ _ _ _ => True) (fun _ UQ oQ UR => ∃ vQ LQ, oQ = .returned vQ ∧ Q4 Z a0 p1 q2 kr z hr h0 n0 vQ UR.heap LQ ∧ FrameEnd UQ oQ UR LQ ({ frames := 0, cells := 0, slots := 0, locals := 0 } : Room).cells ({ frames := 0, cells := 0, slots := 0, locals := 0 } : Room).slots) := by
  refine MetFree.of_bodySF (plainFor_of_name pn_0) hisR ?_
  intro p e s m args below meth c s₁ Bd hml0 hP hK
  obtain ⟨rfl, hZ, hh⟩ := hP
  have hx := Bd.exec
  have hby := Bd.bytes
  have hml : c.maxLocals = 4 := hml0
  have hown : s.vm.findClass "com/example/deseason/deseason/arima/PolynomialsMultiplyPinLaw" = some m.cls := findClass_of_methodNamed Bd.named
  have hnm := (name_of_methodNamed Bd.named Bd.method).1
  have X0 : Stand p l e ({ frames := 0, cells := 0, slots := 0, locals := 0 } : Room) s m #[(.ref a0), (.int p1), (.long q2)] below meth c s₁ [] 0 0 := Stand.of_body Bd
  have e0 : s₁.heap = h0 := by rw [← hh, Bd.state]; rfl
  have N0 := Fr.nil n0
  have K0 : Keep h0 h0 [] := Keep.refl _ _
  have first_ : Rn p e below (s₁.setTop (mkF m 0 #[.val (.ref a0), .val (.int p1), .val (.long q2), .second] [])) (Fn4 Z a0 p1 q2 kr z hr h0 n0 s) := by
    generalize hG : (Fn4 Z a0 p1 q2 kr z hr h0 n0 s) = G
    refine R.iloadN X0 hx (hb hby d4_0) rfl (pc' := 1) rfl ?_
    refine R.aloadN X0 hx (hb hby d4_1) rfl rfl (pc' := 2) rfl ?_
    refine R.alen X0 hx hZ e0 V_a0 (hb hby d4_2) (pc' := 3) rfl ?_
    by_cases hc3 : p1 < z
    · refine R.icmpYes X0 hx (hb hby d4_3) (tlt hc3).1 (by decide) (pc' := 18) (by decide) ?_
      obtain ⟨v, hv, Dv⟩ := rd hc3
      refine R.aloadN X0 hx (hb hby d4_18) rfl rfl (pc' := 19) rfl ?_
      refine R.iloadN X0 hx (hb hby d4_19) rfl (pc' := 20) rfl ?_
      refine R.daload X0 hx hZ e0 V_a0 (own_bd ⟨hk, Int32.lt_iff_toInt_lt.mp hc3⟩ : ¬ p1 < 0 ∧ p1 < z) (v := (.double v)) (hv) (hb hby d4_20) (pc' := 21) rfl ?_
      refine R.lloadN X0 hx (hb hby d4_21) rfl (pc' := 22) rfl ?_
      refine R.l2d X0 hx (hb hby d4_22) (pc' := 23) rfl ?_
      refine R.dcmp X0 hx (hb hby d4_23) (Dv.cmp (Dy.l2d hb_) _ : cmpValue (FP.dcmp v (FP.l2d q2)) .l = (own_ci q2.toInt q2.toInt)) (pc' := 24) rfl ?_
      refine R.ifNo X0 hx (hb hby d4_24) (teq (own_ci_eq.mpr rfl : (own_ci q2.toInt q2.toInt) = (0 : Int32))).2 (pc' := 27) rfl ?_
      refine R.iconst X0 hx (hb hby d4_27) (v := (1 : Int32)) (by decide) (pc' := 28) rfl ?_
      refine R.goto X0 hx (hb hby d4_28) (by decide) (pc' := 32) (by decide) ?_
      rw [← hG]
      exact Rn.ret X0 (BodyLoose.notSynchronized Bd) (v := some (.int (1 : Int32))) (fun h => by rw [Bd.returns] at h; cases h) (Q := Q4 Z a0 p1 q2 kr z hr h0 n0) e0 (fun fs hr => retN X0 hx (t := .boolean) Bd.returns (by simp) (hb hby d4_32) hr) ⟨rfl, N0, rfl⟩ (by decide) (by decide)
    · refine R.icmpNo X0 hx (hb hby d4_3) (flt hc3).1 (pc' := 6) rfl ?_
      refine R.lloadN X0 hx (hb hby d4_6) rfl (pc' := 7) rfl ?_
      refine R.lconst X0 hx (hb hby d4_7) (v := (0 : Int64)) (by decide) (pc' := 8) rfl ?_
      refine R.lcmp X0 hx (hb hby d4_8) (pc' := 9) rfl ?_
      refine R.ifNo X0 hx (hb hby d4_9) (teq (own_lc0.mpr (rz hc3) : (lcmpW q2 (0 : Int64)) = (0 : Int32))).2 (pc' := 12) rfl ?_
      refine R.iconst X0 hx (hb hby d4_12) (v := (1 : Int32)) (by decide) (pc' := 13) rfl ?_
      refine R.goto X0 hx (hb hby d4_13) (by decide) (pc' := 17) (by decide) ?_
      rw [← hG]
      exact Rn.ret X0 (BodyLoose.notSynchronized Bd) (v := some (.int (1 : Int32))) (fun h => by rw [Bd.returns] at h; cases h) (Q := Q4 Z a0 p1 q2 kr z hr h0 n0) e0 (fun fs hr => retN X0 hx (t := .boolean) Bd.returns (by simp) (hb hby d4_17) hr) ⟨rfl, N0, rfl⟩ (by decide) (by decide)
  exact (Rn.st (fun t k => castTop (ef_4 m a0 p1 q2) k) first_ : Rn p e below (s₁.setTop (entryFrame m #[(.ref a0), (.int p1), (.long q2)] 4)) (Fn4 Z a0 p1 q2 kr z hr h0 n0 s))
theorem d5_0 : decode method_5_code 0 = .ok (.aload_n 0, 1) := by decide +kernel
theorem d5_1 : decode method_5_code 1 = .ok (.arraylength, 1) := by decide +kernel
theorem d5_2 : decode method_5_code 2 = .ok (.iload_n 1, 1) := by decide +kernel
theorem d5_3 : decode method_5_code 3 = .ok (.if_icmp .eq 5, 3) := by decide +kernel
theorem d5_8 : decode method_5_code 8 = .ok (.aload_n 0, 1) := by decide +kernel
theorem d5_9 : decode method_5_code 9 = .ok (.iconst 0, 1) := by decide +kernel
theorem d5_10 : decode method_5_code 10 = .ok (.daload, 1) := by decide +kernel
theorem d5_11 : decode method_5_code 11 = .ok (.iload_n 2, 1) := by decide +kernel
theorem d5_12 : decode method_5_code 12 = .ok (.i2d, 1) := by decide +kernel
theorem d5_13 : decode method_5_code 13 = .ok (.dcmp .l, 1) := by decide +kernel
theorem d5_14 : decode method_5_code 14 = .ok (.ifCond .ne 7, 3) := by decide +kernel
theorem d5_17 : decode method_5_code 17 = .ok (.iconst 1, 1) := by decide +kernel
theorem d5_18 : decode method_5_code 18 = .ok (.goto 4, 3) := by decide +kernel
theorem d5_22 : decode method_5_code 22 = .ok (.istore 5, 2) := by decide +kernel
theorem d5_77 : decode method_5_code 77 = .ok (.iload 5, 2) := by decide +kernel
theorem d5_79 : decode method_5_code 79 = .ok (.ireturn, 1) := by decide +kernel
theorem d5_50 : decode method_5_code 50 = .ok (.iload_n 1, 1) := by decide +kernel
theorem d5_51 : decode method_5_code 51 = .ok (.iconst 2, 1) := by decide +kernel
theorem d5_52 : decode method_5_code 52 = .ok (.if_icmp .le 25, 3) := by decide +kernel
theorem d5_55 : decode method_5_code 55 = .ok (.iload 5, 2) := by decide +kernel
theorem d5_57 : decode method_5_code 57 = .ok (.ifCond .eq 17, 3) := by decide +kernel
theorem d5_60 : decode method_5_code 60 = .ok (.aload_n 0, 1) := by decide +kernel
theorem d5_61 : decode method_5_code 61 = .ok (.iconst 2, 1) := by decide +kernel
theorem d5_62 : decode method_5_code 62 = .ok (.daload, 1) := by decide +kernel
theorem d5_63 : decode method_5_code 63 = .ok (.iload 4, 2) := by decide +kernel
theorem d5_65 : decode method_5_code 65 = .ok (.i2d, 1) := by decide +kernel
theorem d5_66 : decode method_5_code 66 = .ok (.dcmp .l, 1) := by decide +kernel
theorem d5_67 : decode method_5_code 67 = .ok (.ifCond .ne 7, 3) := by decide +kernel
theorem d5_70 : decode method_5_code 70 = .ok (.iconst 1, 1) := by decide +kernel
theorem d5_71 : decode method_5_code 71 = .ok (.goto 4, 3) := by decide +kernel
theorem d5_75 : decode method_5_code 75 = .ok (.istore 5, 2) := by decide +kernel
theorem d5_24 : decode method_5_code 24 = .ok (.iload_n 1, 1) := by decide +kernel
theorem d5_25 : decode method_5_code 25 = .ok (.iconst 1, 1) := by decide +kernel
theorem d5_26 : decode method_5_code 26 = .ok (.if_icmp .le 24, 3) := by decide +kernel
theorem d5_29 : decode method_5_code 29 = .ok (.iload 5, 2) := by decide +kernel
theorem d5_31 : decode method_5_code 31 = .ok (.ifCond .eq 16, 3) := by decide +kernel
theorem d5_34 : decode method_5_code 34 = .ok (.aload_n 0, 1) := by decide +kernel
theorem d5_35 : decode method_5_code 35 = .ok (.iconst 1, 1) := by decide +kernel
theorem d5_36 : decode method_5_code 36 = .ok (.daload, 1) := by decide +kernel
theorem d5_37 : decode method_5_code 37 = .ok (.iload_n 3, 1) := by decide +kernel
theorem d5_38 : decode method_5_code 38 = .ok (.i2d, 1) := by decide +kernel
theorem d5_39 : decode method_5_code 39 = .ok (.dcmp .l, 1) := by decide +kernel
theorem d5_40 : decode method_5_code 40 = .ok (.ifCond .ne 7, 3) := by decide +kernel
theorem d5_43 : decode method_5_code 43 = .ok (.iconst 1, 1) := by decide +kernel
theorem d5_44 : decode method_5_code 44 = .ok (.goto 4, 3) := by decide +kernel
theorem d5_48 : decode method_5_code 48 = .ok (.istore 5, 2) := by decide +kernel
theorem ef_5 (m : MethodId) (x0 : Addr) (x1 : Int32) (x2 : Int32) (x3 : Int32) (x4 : Int32) : entryFrame m #[(.ref x0), (.int x1), (.int x2), (.int x3), (.int x4)] 6 = mkF m 0 #[.val (.ref x0), .val (.int x1), .val (.int x2), .val (.int x3), .val (.int x4), .unset] [] := by first | (simp [entryFrame, mkF, argsToLocals, Value.category]; done) | rfl
def Q5 (Z : State) (a0 : Addr) (p1 : Int32) (p2 : Int32) (p3 : Int32) (p4 : Int32) (ka : ClassId) (ha : List (Int32 × Value)) (h0 : Heap) (n0 : Nat) (vQ : Option Value) (hQ_ : Heap) (LQ : List Loc) : Prop := vQ = some (.int (1 : Int32)) ∧ Fr n0 LQ ∧ hQ_ = h0
def Fn5 (Z : State) (a0 : Addr) (p1 : Int32) (p2 : Int32) (p3 : Int32) (p4 : Int32) (ka : ClassId) (ha : List (Int32 × Value)) (h0 : Heap) (n0 : Nat) (sQ : State) (oQ : Outcome) (UQ : State) : Prop := ∃ vQ LQ, oQ = .returned vQ ∧ Q5 Z a0 p1 p2 p3 p4 ka ha h0 n0 vQ UQ.heap LQ ∧ FrameEnd sQ oQ UQ LQ ({ frames := 0, cells := 0, slots := 0, locals := 0 } : Room).cells ({ frames := 0, cells := 0, slots := 0, locals := 0 } : Room).slots
set_option maxRecDepth 65536 in
set_option maxHeartbeats 40000000 in
theorem rm5 (l : Launch) (Z : State) (aZ : Array Value) (hw : ∀ d ∈ tables_1, d.before aZ Z = true) (ws : List Jvm.Cond) (a0 : Addr) (p1 : Int32) (p2 : Int32) (p3 : Int32) (p4 : Int32) (ka : ClassId) (ha : List (Int32 × Value)) (h0 : Heap) (n0 : Nat) (Z0 : n0 ≤ h0.size) (V_a0 : Arh Z h0 a0 ka .double p1 ha [] (.double (0 : UInt64))) (hp : p1 = (1 : Int32) ∨ p1 = (2 : Int32) ∨ p1 = (3 : Int32)) (m0 : getH ha [] (.double (0 : UInt64)) ((0 : Int32)).toNatClampNeg = (.double (FP.i2d p2))) (m1 : (1 : Int32) < p1 → getH ha [] (.double (0 : UInt64)) ((1 : Int32)).toNatClampNeg = (.double (FP.i2d p3))) (m2 : (2 : Int32) < p1 → getH ha [] (.double (0 : UInt64)) ((2 : Int32)).toNatClampNeg = (.double (FP.i2d p4))) :
    MetFree l (⟨"com/example/deseason/deseason/arima/PolynomialsMultiplyPinLaw", "same", "([DIIII)Z"⟩ : MethodName) (head1 (Jvm.Cond.code (⟨"com/example/deseason/deseason/arima/PolynomialsMultiplyPinLaw", "same", "([DIIII)Z"⟩ : MethodName) method_5_code 6 (some .boolean) :: ws) ({ frames := 0, cells := 0, slots := 0, locals := 0 } : Room)) (fun aQ UQ => aQ = #[(.ref a0), (.int p1), (.int p2), (.int p3), (.int p4)] ∧ Z.Warmed39 UQ.vm ∧ UQ.heap = h0) (fun _ _ _ _ _ => True) (fun _ UQ oQ UR => ∃ vQ LQ, oQ = .returned vQ ∧ Q5 Z a0 p1 p2 p3 p4 ka ha h0 n0 vQ UR.heap LQ ∧ FrameEnd UQ oQ UR LQ ({ frames := 0, cells := 0, slots := 0, locals := 0 } : Room).cells ({ frames := 0, cells := 0, slots := 0, locals := 0 } : Room).slots) := by
  refine MetFree.of_bodySF (plainFor_of_name pn_0) hisR ?_
  intro p e s m args below meth c s₁ Bd hml0 hP hK
  obtain ⟨rfl, hZ, hh⟩ := hP
  have hx := Bd.exec
  have hby := Bd.bytes
  have hml : c.maxLocals = 6 := hml0
  have hown : s.vm.findClass "com/example/deseason/deseason/arima/PolynomialsMultiplyPinLaw" = some m.cls := findClass_of_methodNamed Bd.named
  have hnm := (name_of_methodNamed Bd.named Bd.method).1
  have X0 : Stand p l e ({ frames := 0, cells := 0, slots := 0, locals := 0 } : Room) s m #[(.ref a0), (.int p1), (.int p2), (.int p3), (.int p4)] below meth c s₁ [] 0 0 := Stand.of_body Bd
  have e0 : s₁.heap = h0 := by rw [← hh, Bd.state]; rfl
  have N0 := Fr.nil n0
  have K0 : Keep h0 h0 [] := Keep.refl _ _
  have first_ : Rn p e below (s₁.setTop (mkF m 0 #[.val (.ref a0), .val (.int p1), .val (.int p2), .val (.int p3), .val (.int p4), .unset] [])) (Fn5 Z a0 p1 p2 p3 p4 ka ha h0 n0 s) := by
    generalize hG : (Fn5 Z a0 p1 p2 p3 p4 ka ha h0 n0 s) = G
    refine R.aloadN X0 hx (hb hby d5_0) rfl rfl (pc' := 1) rfl ?_
    refine R.alen X0 hx hZ e0 V_a0 (hb hby d5_1) (pc' := 2) rfl ?_
    refine R.iloadN X0 hx (hb hby d5_2) rfl (pc' := 3) rfl ?_
    refine R.icmpYes X0 hx (hb hby d5_3) (teq (rfl : p1 = p1)).1 (by decide) (pc' := 8) (by decide) ?_
    refine R.aloadN X0 hx (hb hby d5_8) rfl rfl (pc' := 9) rfl ?_
    refine R.iconst X0 hx (hb hby d5_9) (v := (0 : Int32)) (by decide) (pc' := 10) rfl ?_
    refine R.daload X0 hx hZ e0 V_a0 (own_in0 hp : ¬ (0 : Int32) < 0 ∧ (0 : Int32) < p1) (v := (.double (FP.i2d p2))) (m0) (hb hby d5_10) (pc' := 11) rfl ?_
    refine R.iloadN X0 hx (hb hby d5_11) rfl (pc' := 12) rfl ?_
    refine R.i2d X0 hx (hb hby d5_12) (pc' := 13) rfl ?_
    refine R.dcmp X0 hx (hb hby d5_13) (dcmpV_self (Dy.i2d p2).nn _ : cmpValue (FP.dcmp (FP.i2d p2) (FP.i2d p2)) .l = (0 : Int32)) (pc' := 14) rfl ?_
    refine R.ifNo X0 hx (hb hby d5_14) (teq (by decide : (0 : Int32) = (0 : Int32))).2 (pc' := 17) rfl ?_
    refine R.iconst X0 hx (hb hby d5_17) (v := (1 : Int32)) (by decide) (pc' := 18) rfl ?_
    refine R.goto X0 hx (hb hby d5_18) (by decide) (pc' := 22) (by decide) ?_
    refine R.istore X0 hx (hb hby d5_22) (L' := #[.val (.ref a0), .val (.int p1), .val (.int p2), .val (.int p3), .val (.int p4), .val (.int (1 : Int32))]) rfl (pc' := 24) rfl ?_
    have J50 : Rn p e below (s₁.setTop (mkF m 50 #[.val (.ref a0), .val (.int p1), .val (.int p2), .val (.int p3), .val (.int p4), .val (.int (1 : Int32))] [])) G := by
      have J77 : Rn p e below (s₁.setTop (mkF m 77 #[.val (.ref a0), .val (.int p1), .val (.int p2), .val (.int p3), .val (.int p4), .val (.int (1 : Int32))] [])) G := by
        refine R.iload X0 hx (hb hby d5_77) rfl (pc' := 79) rfl ?_
        rw [← hG]
        exact Rn.ret X0 (BodyLoose.notSynchronized Bd) (v := some (.int (1 : Int32))) (fun h => by rw [Bd.returns] at h; cases h) (Q := Q5 Z a0 p1 p2 p3 p4 ka ha h0 n0) e0 (fun fs hr => retN X0 hx (t := .boolean) Bd.returns (by simp) (hb hby d5_79) hr) ⟨rfl, N0, rfl⟩ (by decide) (by decide)
      refine R.iloadN X0 hx (hb hby d5_50) rfl (pc' := 51) rfl ?_
      refine R.iconst X0 hx (hb hby d5_51) (v := (2 : Int32)) (by decide) (pc' := 52) rfl ?_
      by_cases hc52 : (2 : Int32) < p1
      · refine R.icmpNo X0 hx (hb hby d5_52) (tlt hc52).2.2.2 (pc' := 55) rfl ?_
        refine R.iload X0 hx (hb hby d5_55) rfl (pc' := 57) rfl ?_
        refine R.ifNo X0 hx (hb hby d5_57) (feq (by decide : ¬ ((1 : Int32) = (0 : Int32)))).1 (pc' := 60) rfl ?_
        refine R.aloadN X0 hx (hb hby d5_60) rfl rfl (pc' := 61) rfl ?_
        refine R.iconst X0 hx (hb hby d5_61) (v := (2 : Int32)) (by decide) (pc' := 62) rfl ?_
        refine R.daload X0 hx hZ e0 V_a0 (⟨by decide, hc52⟩ : ¬ (2 : Int32) < 0 ∧ (2 : Int32) < p1) (v := (.double (FP.i2d p4))) (m2 hc52) (hb hby d5_62) (pc' := 63) rfl ?_
        refine R.iload X0 hx (hb hby d5_63) rfl (pc' := 65) rfl ?_
        refine R.i2d X0 hx (hb hby d5_65) (pc' := 66) rfl ?_
        refine R.dcmp X0 hx (hb hby d5_66) (dcmpV_self (Dy.i2d p4).nn _ : cmpValue (FP.dcmp (FP.i2d p4) (FP.i2d p4)) .l = (0 : Int32)) (pc' := 67) rfl ?_
        refine R.ifNo X0 hx (hb hby d5_67) (teq (by decide : (0 : Int32) = (0 : Int32))).2 (pc' := 70) rfl ?_
        refine R.iconst X0 hx (hb hby d5_70) (v := (1 : Int32)) (by decide) (pc' := 71) rfl ?_
        refine R.goto X0 hx (hb hby d5_71) (by decide) (pc' := 75) (by decide) ?_
        refine R.istore X0 hx (hb hby d5_75) (L' := #[.val (.ref a0), .val (.int p1), .val (.int p2), .val (.int p3), .val (.int p4), .val (.int (1 : Int32))]) rfl (pc' := 77) rfl ?_
        exact J77
      · refine R.icmpYes X0 hx (hb hby d5_52) (flt hc52).2.2.2 (by decide) (pc' := 77) (by decide) ?_
        exact J77
    refine R.iloadN X0 hx (hb hby d5_24) rfl (pc' := 25) rfl ?_
    refine R.iconst X0 hx (hb hby d5_25) (v := (1 : Int32)) (by decide) (pc' := 26) rfl ?_
    by_cases hc26 : (1 : Int32) < p1
    · refine R.icmpNo X0 hx (hb hby d5_26) (tlt hc26).2.2.2 (pc' := 29) rfl ?_
      refine R.iload X0 hx (hb hby d5_29) rfl (pc' := 31) rfl ?_
      refine R.ifNo X0 hx (hb hby d5_31) (feq (by decide : ¬ ((1 : Int32) = (0 : Int32)))).1 (pc' := 34) rfl ?_
      refine R.aloadN X0 hx (hb hby d5_34) rfl rfl (pc' := 35) rfl ?_
      refine R.iconst X0 hx (hb hby d5_35) (v := (1 : Int32)) (by decide) (pc' := 36) rfl ?_
      refine R.daload X0 hx hZ e0 V_a0 (⟨by decide, hc26⟩ : ¬ (1 : Int32) < 0 ∧ (1 : Int32) < p1) (v := (.double (FP.i2d p3))) (m1 hc26) (hb hby d5_36) (pc' := 37) rfl ?_
      refine R.iloadN X0 hx (hb hby d5_37) rfl (pc' := 38) rfl ?_
      refine R.i2d X0 hx (hb hby d5_38) (pc' := 39) rfl ?_
      refine R.dcmp X0 hx (hb hby d5_39) (dcmpV_self (Dy.i2d p3).nn _ : cmpValue (FP.dcmp (FP.i2d p3) (FP.i2d p3)) .l = (0 : Int32)) (pc' := 40) rfl ?_
      refine R.ifNo X0 hx (hb hby d5_40) (teq (by decide : (0 : Int32) = (0 : Int32))).2 (pc' := 43) rfl ?_
      refine R.iconst X0 hx (hb hby d5_43) (v := (1 : Int32)) (by decide) (pc' := 44) rfl ?_
      refine R.goto X0 hx (hb hby d5_44) (by decide) (pc' := 48) (by decide) ?_
      refine R.istore X0 hx (hb hby d5_48) (L' := #[.val (.ref a0), .val (.int p1), .val (.int p2), .val (.int p3), .val (.int p4), .val (.int (1 : Int32))]) rfl (pc' := 50) rfl ?_
      have J77 : Rn p e below (s₁.setTop (mkF m 77 #[.val (.ref a0), .val (.int p1), .val (.int p2), .val (.int p3), .val (.int p4), .val (.int (1 : Int32))] [])) G := by
        refine R.iload X0 hx (hb hby d5_77) rfl (pc' := 79) rfl ?_
        rw [← hG]
        exact Rn.ret X0 (BodyLoose.notSynchronized Bd) (v := some (.int (1 : Int32))) (fun h => by rw [Bd.returns] at h; cases h) (Q := Q5 Z a0 p1 p2 p3 p4 ka ha h0 n0) e0 (fun fs hr => retN X0 hx (t := .boolean) Bd.returns (by simp) (hb hby d5_79) hr) ⟨rfl, N0, rfl⟩ (by decide) (by decide)
      exact J50
    · refine R.icmpYes X0 hx (hb hby d5_26) (flt hc26).2.2.2 (by decide) (pc' := 50) (by decide) ?_
      have J77 : Rn p e below (s₁.setTop (mkF m 77 #[.val (.ref a0), .val (.int p1), .val (.int p2), .val (.int p3), .val (.int p4), .val (.int (1 : Int32))] [])) G := by
        refine R.iload X0 hx (hb hby d5_77) rfl (pc' := 79) rfl ?_
        rw [← hG]
        exact Rn.ret X0 (BodyLoose.notSynchronized Bd) (v := some (.int (1 : Int32))) (fun h => by rw [Bd.returns] at h; cases h) (Q := Q5 Z a0 p1 p2 p3 p4 ka ha h0 n0) e0 (fun fs hr => retN X0 hx (t := .boolean) Bd.returns (by simp) (hb hby d5_79) hr) ⟨rfl, N0, rfl⟩ (by decide) (by decide)
      exact J50
  exact (Rn.st (fun t k => castTop (ef_5 m a0 p1 p2 p3 p4) k) first_ : Rn p e below (s₁.setTop (entryFrame m #[(.ref a0), (.int p1), (.int p2), (.int p3), (.int p4)] 6)) (Fn5 Z a0 p1 p2 p3 p4 ka ha h0 n0 s))
theorem pd_0 : parseMethodDescriptor "(I)I" = some ⟨[.int], some .int⟩ := by decide +kernel
abbrev mY0 : MethodName := (⟨"com/example/deseason/deseason/arima/PolynomialsMultiplyPinLaw", "coef", "(I)I"⟩ : MethodName)
theorem pd_1 : parseMethodDescriptor "(IIII)[D" = some ⟨[.int, .int, .int, .int], some (.array .double)⟩ := by decide +kernel
abbrev mY1 : MethodName := (⟨"com/example/deseason/deseason/arima/PolynomialsMultiplyPinLaw", "make", "(IIII)[D"⟩ : MethodName)
theorem pd_2 : parseMethodDescriptor "([D[D)[D" = some ⟨[(.array .double), (.array .double)], some (.array .double)⟩ := by decide +kernel
abbrev mY2 : MethodName := (⟨"com/example/deseason/deseason/arima/Polynomials", "multiply", "([D[D)[D"⟩ : MethodName)
theorem pd_3 : parseMethodDescriptor "([DIJ)Z" = some ⟨[(.array .double), .int, .long], some .boolean⟩ := by decide +kernel
abbrev mY3 : MethodName := (⟨"com/example/deseason/deseason/arima/PolynomialsMultiplyPinLaw", "entry", "([DIJ)Z"⟩ : MethodName)
theorem pd_4 : parseMethodDescriptor "([DIIII)Z" = some ⟨[(.array .double), .int, .int, .int, .int], some .boolean⟩ := by decide +kernel
abbrev mY4 : MethodName := (⟨"com/example/deseason/deseason/arima/PolynomialsMultiplyPinLaw", "same", "([DIIII)Z"⟩ : MethodName)
theorem ef_0 (m : MethodId) (x0 : Int32) (x1 : Int32) (x2 : Int32) (x3 : Int32) (x4 : Int32) (x5 : Int32) : entryFrame m #[(.int x0), (.int x1), (.int x2), (.int x3), (.int x4), (.int x5)] maxLocals = mkF m 0 #[.val (.int x0), .val (.int x1), .val (.int x2), .val (.int x3), .val (.int x4), .val (.int x5), .unset, .unset, .unset, .unset, .unset, .unset, .unset, .unset, .unset, .unset, .unset, .unset, .unset, .unset, .unset, .unset, .unset, .unset, .unset, .unset, .unset, .unset, .unset, .unset, .unset, .unset, .unset, .unset, .unset, .unset, .unset, .unset, .unset] [] := by first | (simp [entryFrame, mkF, argsToLocals, Value.category, maxLocals]; done) | rfl
def Q0 (Z : State) (p0 : Int32) (p1 : Int32) (p2 : Int32) (p3 : Int32) (p4 : Int32) (p5 : Int32) (h0 : Heap) (n0 : Nat) (vQ : Option Value) (hQ_ : Heap) (LQ : List Loc) : Prop := vQ = some (.int 1) ∧ Fr n0 LQ
def Fn0 (Z : State) (p0 : Int32) (p1 : Int32) (p2 : Int32) (p3 : Int32) (p4 : Int32) (p5 : Int32) (h0 : Heap) (n0 : Nat) (sQ : State) (oQ : Outcome) (UQ : State) : Prop := ∃ vQ LQ, oQ = .returned vQ ∧ Q0 Z p0 p1 p2 p3 p4 p5 h0 n0 vQ UQ.heap LQ ∧ FrameEnd sQ oQ UQ LQ room_1.cells room_1.slots
set_option maxRecDepth 65536 in
set_option maxHeartbeats 40000000 in
theorem rm0 (l : Launch) (Z : State) (aZ : Array Value) (hw : ∀ d ∈ tables_1, d.before aZ Z = true) (ws : List Jvm.Cond) (p0 : Int32) (p1 : Int32) (p2 : Int32) (p3 : Int32) (p4 : Int32) (p5 : Int32) (h0 : Heap) (n0 : Nat) (Z0 : n0 ≤ h0.size) :
    MetFree l x (head1 (Jvm.Cond.code x code maxLocals ret :: ws) room_1) (fun aQ UQ => aQ = #[(.int p0), (.int p1), (.int p2), (.int p3), (.int p4), (.int p5)] ∧ Z.Warmed39 UQ.vm ∧ UQ.heap = h0) (fun _ _ _ _ _ => True) (fun _ UQ oQ UR => ∃ vQ LQ, oQ = .returned vQ ∧ Q0 Z p0 p1 p2 p3 p4 p5 h0 n0 vQ UR.heap LQ ∧ FrameEnd UQ oQ UR LQ room_1.cells room_1.slots) := by
  refine MetFree.of_bodySF (plainFor_of_name pn_0) hisR ?_
  intro p e s m args below meth c s₁ Bd hml0 hP hK
  obtain ⟨rfl, hZ, hh⟩ := hP
  have hx := Bd.exec
  have hby := Bd.bytes
  have hml : c.maxLocals = 39 := hml0
  have hown : s.vm.findClass "com/example/deseason/deseason/arima/PolynomialsMultiplyPinLaw" = some m.cls := findClass_of_methodNamed Bd.named
  have hnm := (name_of_methodNamed Bd.named Bd.method).1
  have X0 : Stand p l e room_1 s m #[(.int p0), (.int p1), (.int p2), (.int p3), (.int p4), (.int p5)] below meth c s₁ [] 0 0 := Stand.of_body Bd
  have e0 : s₁.heap = h0 := by rw [← hh, Bd.state]; rfl
  have N0 := Fr.nil n0
  have K0 : Keep h0 h0 [] := Keep.refl _ _
  have w_0 := hw _ (List.mem_of_getElem? (i := 0) rfl)
  have w_1 := hw _ (List.mem_of_getElem? (i := 1) rfl)
  have w_2 := hw _ (List.mem_of_getElem? (i := 2) rfl)
  have w_3 := hw _ (List.mem_of_getElem? (i := 3) rfl)
  have w_4 := hw _ (List.mem_of_getElem? (i := 4) rfl)
  have w_5 := hw _ (List.mem_of_getElem? (i := 5) rfl)
  have w_6 := hw _ (List.mem_of_getElem? (i := 6) rfl)
  have w_8 := hw _ (List.mem_of_getElem? (i := 8) rfl)
  have w_9 := hw _ (List.mem_of_getElem? (i := 9) rfl)
  have w_10 := hw _ (List.mem_of_getElem? (i := 10) rfl)
  have w_11 := hw _ (List.mem_of_getElem? (i := 11) rfl)
  have w_12 := hw _ (List.mem_of_getElem? (i := 12) rfl)
  have w_13 := hw _ (List.mem_of_getElem? (i := 13) rfl)
  have w_14 := hw _ (List.mem_of_getElem? (i := 14) rfl)
  have w_15 := hw _ (List.mem_of_getElem? (i := 15) rfl)
  have w_16 := hw _ (List.mem_of_getElem? (i := 16) rfl)
  have w_17 := hw _ (List.mem_of_getElem? (i := 17) rfl)
  have first_ : Rn p e below (s₁.setTop (mkF m 0 #[.val (.int p0), .val (.int p1), .val (.int p2), .val (.int p3), .val (.int p4), .val (.int p5), .unset, .unset, .unset, .unset, .unset, .unset, .unset, .unset, .unset, .unset, .unset, .unset, .unset, .unset, .unset, .unset, .unset, .unset, .unset, .unset, .unset, .unset, .unset, .unset, .unset, .unset, .unset, .unset, .unset, .unset, .unset, .unset, .unset] [])) (Fn0 Z p0 p1 p2 p3 p4 p5 h0 n0 s) := by
    generalize hG : (Fn0 Z p0 p1 p2 p3 p4 p5 h0 n0 s) = G
    refine R.iconst X0 hx (hb hby at_0) (v := (1 : Int32)) (by decide) (pc' := 1) rfl ?_
    refine R.iloadN X0 hx (hb hby at_1) rfl (pc' := 2) rfl ?_
    refine R.bipush X0 hx (hb hby at_2) (v := (28 : Int32)) (by decide) (pc' := 4) rfl ?_
    refine R.iushr X0 hx (hb hby at_4) (pc' := 5) rfl ?_
    refine R.iconst X0 hx (hb hby at_5) (v := (3 : Int32)) (by decide) (pc' := 6) rfl ?_
    refine R.irem X0 hx (hb hby at_6) (by decide : (3 : Int32) ≠ (0 : Int32)) (pc' := 7) rfl ?_
    refine R.iadd X0 hx (hb hby at_7) rfl (pc' := 8) rfl ?_
    show Rn p e below (s₁.setTop (mkF m 8 #[.val (.int p0), .val (.int p1), .val (.int p2), .val (.int p3), .val (.int p4), .val (.int p5), .unset, .unset, .unset, .unset, .unset, .unset, .unset, .unset, .unset, .unset, .unset, .unset, .unset, .unset, .unset, .unset, .unset, .unset, .unset, .unset, .unset, .unset, .unset, .unset, .unset, .unset, .unset, .unset, .unset, .unset, .unset, .unset, .unset] [(.int ((1 : Int32) + (((p0.toUInt32 >>> ((28 : Int32) &&& 31).toUInt32).toInt32) % (3 : Int32))))])) G
    generalize hi1 : ((1 : Int32) + (((p0.toUInt32 >>> ((28 : Int32) &&& 31).toUInt32).toInt32) % (3 : Int32))) = i1
    refine R.istore X0 hx (hb hby at_8) (L' := #[.val (.int p0), .val (.int p1), .val (.int p2), .val (.int p3), .val (.int p4), .val (.int p5), .val (.int i1), .unset, .unset, .unset, .unset, .unset, .unset, .unset, .unset, .unset, .unset, .unset, .unset, .unset, .unset, .unset, .unset, .unset, .unset, .unset, .unset, .unset, .unset, .unset, .unset, .unset, .unset, .unset, .unset, .unset, .unset, .unset, .unset]) rfl (pc' := 10) rfl ?_
    refine R.iconst X0 hx (hb hby at_10) (v := (1 : Int32)) (by decide) (pc' := 11) rfl ?_
    refine R.iloadN X0 hx (hb hby at_11) rfl (pc' := 12) rfl ?_
    refine R.bipush X0 hx (hb hby at_12) (v := (28 : Int32)) (by decide) (pc' := 14) rfl ?_
    refine R.iushr X0 hx (hb hby at_14) (pc' := 15) rfl ?_
    refine R.iconst X0 hx (hb hby at_15) (v := (3 : Int32)) (by decide) (pc' := 16) rfl ?_
    refine R.irem X0 hx (hb hby at_16) (by decide : (3 : Int32) ≠ (0 : Int32)) (pc' := 17) rfl ?_
    refine R.iadd X0 hx (hb hby at_17) rfl (pc' := 18) rfl ?_
    show Rn p e below (s₁.setTop (mkF m 18 #[.val (.int p0), .val (.int p1), .val (.int p2), .val (.int p3), .val (.int p4), .val (.int p5), .val (.int i1), .unset, .unset, .unset, .unset, .unset, .unset, .unset, .unset, .unset, .unset, .unset, .unset, .unset, .unset, .unset, .unset, .unset, .unset, .unset, .unset, .unset, .unset, .unset, .unset, .unset, .unset, .unset, .unset, .unset, .unset, .unset, .unset] [(.int ((1 : Int32) + (((p1.toUInt32 >>> ((28 : Int32) &&& 31).toUInt32).toInt32) % (3 : Int32))))])) G
    generalize hi2 : ((1 : Int32) + (((p1.toUInt32 >>> ((28 : Int32) &&& 31).toUInt32).toInt32) % (3 : Int32))) = i2
    refine R.istore X0 hx (hb hby at_18) (L' := #[.val (.int p0), .val (.int p1), .val (.int p2), .val (.int p3), .val (.int p4), .val (.int p5), .val (.int i1), .val (.int i2), .unset, .unset, .unset, .unset, .unset, .unset, .unset, .unset, .unset, .unset, .unset, .unset, .unset, .unset, .unset, .unset, .unset, .unset, .unset, .unset, .unset, .unset, .unset, .unset, .unset, .unset, .unset, .unset, .unset, .unset, .unset]) rfl (pc' := 20) rfl ?_
    refine R.iloadN X0 hx (hb hby at_20) rfl (pc' := 21) rfl ?_
    refine R.callS X0 hx hZ (y := mY0) hown w_0 w_1 w_2 w_3 (by decide) e0 (rm1 l Z aZ hw [] p0 h0 n0 Z0 ) (by decide) (W := 0) (Nat.le_of_eq rfl) (by decide) (by rw [hml]; rfl) (lenOf pd_0 rfl) rfl (hb hby at_21) (pc' := 24) rfl (by decide) (by decide) ?_; intro v3 T3 L3 X3 hQ3
    obtain ⟨rfl, N3q, e3⟩ := hQ3
    have N3 := Fr.app N0 N3q
    show Rn p e below (T3.setTop (mkF m 24 #[.val (.int p0), .val (.int p1), .val (.int p2), .val (.int p3), .val (.int p4), .val (.int p5), .val (.int i1), .val (.int i2), .unset, .unset, .unset, .unset, .unset, .unset, .unset, .unset, .unset, .unset, .unset, .unset, .unset, .unset, .unset, .unset, .unset, .unset, .unset, .unset, .unset, .unset, .unset, .unset, .unset, .unset, .unset, .unset, .unset, .unset, .unset] [(.int ((p0 <<< ((11 : Int32) &&& 31)) >>> ((11 : Int32) &&& 31)))])) G
    generalize hi4 : ((p0 <<< ((11 : Int32) &&& 31)) >>> ((11 : Int32) &&& 31)) = i4
    refine R.istore X3 hx (hb hby at_24) (L' := #[.val (.int p0), .val (.int p1), .val (.int p2), .val (.int p3), .val (.int p4), .val (.int p5), .val (.int i1), .val (.int i2), .val (.int i4), .unset, .unset, .unset, .unset, .unset, .unset, .unset, .unset, .unset, .unset, .unset, .unset, .unset, .unset, .unset, .unset, .unset, .unset, .unset, .unset, .unset, .unset, .unset, .unset, .unset, .unset, .unset, .unset, .unset, .unset]) rfl (pc' := 26) rfl ?_
    refine R.iloadN X3 hx (hb hby at_26) rfl (pc' := 27) rfl ?_
    refine R.callS X3 hx hZ (y := mY0) hown w_0 w_1 w_2 w_3 (by decide) e3 (rm1 l Z aZ hw [] p1 h0 n0 Z0 ) (by decide) (W := 0) (Nat.le_of_eq rfl) (by decide) (by rw [hml]; rfl) (lenOf pd_0 rfl) rfl (hb hby at_27) (pc' := 30) rfl (by decide) (by decide) ?_; intro v5 T5 L5 X5 hQ5
    obtain ⟨rfl, N5q, e5⟩ := hQ5
    have N5 := Fr.app N3 N5q
    show Rn p e below (T5.setTop (mkF m 30 #[.val (.int p0), .val (.int p1), .val (.int p2), .val (.int p3), .val (.int p4), .val (.int p5), .val (.int i1), .val (.int i2), .val (.int i4), .unset, .unset, .unset, .unset, .unset, .unset, .unset, .unset, .unset, .unset, .unset, .unset, .unset, .unset, .unset, .unset, .unset, .unset, .unset, .unset, .unset, .unset, .unset, .unset, .unset, .unset, .unset, .unset, .unset, .unset] [(.int ((p1 <<< ((11 : Int32) &&& 31)) >>> ((11 : Int32) &&& 31)))])) G
    generalize hi6 : ((p1 <<< ((11 : Int32) &&& 31)) >>> ((11 : Int32) &&& 31)) = i6
    refine R.istore X5 hx (hb hby at_30) (L' := #[.val (.int p0), .val (.int p1), .val (.int p2), .val (.int p3), .val (.int p4), .val (.int p5), .val (.int i1), .val (.int i2), .val (.int i4), .val (.int i6), .unset, .unset, .unset, .unset, .unset, .unset, .unset, .unset, .unset, .unset, .unset, .unset, .unset, .unset, .unset, .unset, .unset, .unset, .unset, .unset, .unset, .unset, .unset, .unset, .unset, .unset, .unset, .unset, .unset]) rfl (pc' := 32) rfl ?_
    refine R.iloadN X5 hx (hb hby at_32) rfl (pc' := 33) rfl ?_
    refine R.callS X5 hx hZ (y := mY0) hown w_0 w_1 w_2 w_3 (by decide) e5 (rm1 l Z aZ hw [] p2 h0 n0 Z0 ) (by decide) (W := 0) (Nat.le_of_eq rfl) (by decide) (by rw [hml]; rfl) (lenOf pd_0 rfl) rfl (hb hby at_33) (pc' := 36) rfl (by decide) (by decide) ?_; intro v7 T7 L7 X7 hQ7
    obtain ⟨rfl, N7q, e7⟩ := hQ7
    have N7 := Fr.app N5 N7q
    show Rn p e below (T7.setTop (mkF m 36 #[.val (.int p0), .val (.int p1), .val (.int p2), .val (.int p3), .val (.int p4), .val (.int p5), .val (.int i1), .val (.int i2), .val (.int i4), .val (.int i6), .unset, .unset, .unset, .unset, .unset, .unset, .unset, .unset, .unset, .unset, .unset, .unset, .unset, .unset, .unset, .unset, .unset, .unset, .unset, .unset, .unset, .unset, .unset, .unset, .unset, .unset, .unset, .unset, .unset] [(.int ((p2 <<< ((11 : Int32) &&& 31)) >>> ((11 : Int32) &&& 31)))])) G
    generalize hi8 : ((p2 <<< ((11 : Int32) &&& 31)) >>> ((11 : Int32) &&& 31)) = i8
    refine R.istore X7 hx (hb hby at_36) (L' := #[.val (.int p0), .val (.int p1), .val (.int p2), .val (.int p3), .val (.int p4), .val (.int p5), .val (.int i1), .val (.int i2), .val (.int i4), .val (.int i6), .val (.int i8), .unset, .unset, .unset, .unset, .unset, .unset, .unset, .unset, .unset, .unset, .unset, .unset, .unset, .unset, .unset, .unset, .unset, .unset, .unset, .unset, .unset, .unset, .unset, .unset, .unset, .unset, .unset, .unset]) rfl (pc' := 38) rfl ?_
    refine R.iloadN X7 hx (hb hby at_38) rfl (pc' := 39) rfl ?_
    refine R.callS X7 hx hZ (y := mY0) hown w_0 w_1 w_2 w_3 (by decide) e7 (rm1 l Z aZ hw [] p3 h0 n0 Z0 ) (by decide) (W := 0) (Nat.le_of_eq rfl) (by decide) (by rw [hml]; rfl) (lenOf pd_0 rfl) rfl (hb hby at_39) (pc' := 42) rfl (by decide) (by decide) ?_; intro v9 T9 L9 X9 hQ9
    obtain ⟨rfl, N9q, e9⟩ := hQ9
    have N9 := Fr.app N7 N9q
    show Rn p e below (T9.setTop (mkF m 42 #[.val (.int p0), .val (.int p1), .val (.int p2), .val (.int p3), .val (.int p4), .val (.int p5), .val (.int i1), .val (.int i2), .val (.int i4), .val (.int i6), .val (.int i8), .unset, .unset, .unset, .unset, .unset, .unset, .unset, .unset, .unset, .unset, .unset, .unset, .unset, .unset, .unset, .unset, .unset, .unset, .unset, .unset, .unset, .unset, .unset, .unset, .unset, .unset, .unset, .unset] [(.int ((p3 <<< ((11 : Int32) &&& 31)) >>> ((11 : Int32) &&& 31)))])) G
    generalize hi10 : ((p3 <<< ((11 : Int32) &&& 31)) >>> ((11 : Int32) &&& 31)) = i10
    refine R.istore X9 hx (hb hby at_42) (L' := #[.val (.int p0), .val (.int p1), .val (.int p2), .val (.int p3), .val (.int p4), .val (.int p5), .val (.int i1), .val (.int i2), .val (.int i4), .val (.int i6), .val (.int i8), .val (.int i10), .unset, .unset, .unset, .unset, .unset, .unset, .unset, .unset, .unset, .unset, .unset, .unset, .unset, .unset, .unset, .unset, .unset, .unset, .unset, .unset, .unset, .unset, .unset, .unset, .unset, .unset, .unset]) rfl (pc' := 44) rfl ?_
    refine R.iload X9 hx (hb hby at_44) rfl (pc' := 46) rfl ?_
    refine R.callS X9 hx hZ (y := mY0) hown w_0 w_1 w_2 w_3 (by decide) e9 (rm1 l Z aZ hw [] p4 h0 n0 Z0 ) (by decide) (W := 0) (Nat.le_of_eq rfl) (by decide) (by rw [hml]; rfl) (lenOf pd_0 rfl) rfl (hb hby at_46) (pc' := 49) rfl (by decide) (by decide) ?_; intro v11 T11 L11 X11 hQ11
    obtain ⟨rfl, N11q, e11⟩ := hQ11
    have N11 := Fr.app N9 N11q
    show Rn p e below (T11.setTop (mkF m 49 #[.val (.int p0), .val (.int p1), .val (.int p2), .val (.int p3), .val (.int p4), .val (.int p5), .val (.int i1), .val (.int i2), .val (.int i4), .val (.int i6), .val (.int i8), .val (.int i10), .unset, .unset, .unset, .unset, .unset, .unset, .unset, .unset, .unset, .unset, .unset, .unset, .unset, .unset, .unset, .unset, .unset, .unset, .unset, .unset, .unset, .unset, .unset, .unset, .unset, .unset, .unset] [(.int ((p4 <<< ((11 : Int32) &&& 31)) >>> ((11 : Int32) &&& 31)))])) G
    generalize hi12 : ((p4 <<< ((11 : Int32) &&& 31)) >>> ((11 : Int32) &&& 31)) = i12
    refine R.istore X11 hx (hb hby at_49) (L' := #[.val (.int p0), .val (.int p1), .val (.int p2), .val (.int p3), .val (.int p4), .val (.int p5), .val (.int i1), .val (.int i2), .val (.int i4), .val (.int i6), .val (.int i8), .val (.int i10), .val (.int i12), .unset, .unset, .unset, .unset, .unset, .unset, .unset, .unset, .unset, .unset, .unset, .unset, .unset, .unset, .unset, .unset, .unset, .unset, .unset, .unset, .unset, .unset, .unset, .unset, .unset, .unset]) rfl (pc' := 51) rfl ?_
    refine R.iload X11 hx (hb hby at_51) rfl (pc' := 53) rfl ?_
    refine R.callS X11 hx hZ (y := mY0) hown w_0 w_1 w_2 w_3 (by decide) e11 (rm1 l Z aZ hw [] p5 h0 n0 Z0 ) (by decide) (W := 0) (Nat.le_of_eq rfl) (by decide) (by rw [hml]; rfl) (lenOf pd_0 rfl) rfl (hb hby at_53) (pc' := 56) rfl (by decide) (by decide) ?_; intro v13 T13 L13 X13 hQ13
    obtain ⟨rfl, N13q, e13⟩ := hQ13
    have N13 := Fr.app N11 N13q
    show Rn p e below (T13.setTop (mkF m 56 #[.val (.int p0), .val (.int p1), .val (.int p2), .val (.int p3), .val (.int p4), .val (.int p5), .val (.int i1), .val (.int i2), .val (.int i4), .val (.int i6), .val (.int i8), .val (.int i10), .val (.int i12), .unset, .unset, .unset, .unset, .unset, .unset, .unset, .unset, .unset, .unset, .unset, .unset, .unset, .unset, .unset, .unset, .unset, .unset, .unset, .unset, .unset, .unset, .unset, .unset, .unset, .unset] [(.int ((p5 <<< ((11 : Int32) &&& 31)) >>> ((11 : Int32) &&& 31)))])) G
    generalize hi14 : ((p5 <<< ((11 : Int32) &&& 31)) >>> ((11 : Int32) &&& 31)) = i14
    refine R.istore X13 hx (hb hby at_56) (L' := #[.val (.int p0), .val (.int p1), .val (.int p2), .val (.int p3), .val (.int p4), .val (.int p5), .val (.int i1), .val (.int i2), .val (.int i4), .val (.int i6), .val (.int i8), .val (.int i10), .val (.int i12), .val (.int i14), .unset, .unset, .unset, .unset, .unset, .unset, .unset, .unset, .unset, .unset, .unset, .unset, .unset, .unset, .unset, .unset, .unset, .unset, .unset, .unset, .unset, .unset, .unset, .unset, .unset]) rfl (pc' := 58) rfl ?_
    have hla := own_len hi1
    have hlb := own_len hi2
    have b_8 : own_ab i4.toInt 1048576 := own_cb hi4
    have b_9 : own_ab i6.toInt 1048576 := own_cb hi6
    have b_10 : own_ab i8.toInt 1048576 := own_cb hi8
    have b_11 : own_ab i10.toInt 1048576 := own_cb hi10
    have b_12 : own_ab i12.toInt 1048576 := own_cb hi12
    have b_13 : own_ab i14.toInt 1048576 := own_cb hi14
    refine R.iload X13 hx (hb hby at_58) rfl (pc' := 60) rfl ?_
    refine R.iload X13 hx (hb hby at_60) rfl (pc' := 62) rfl ?_
    refine R.iload X13 hx (hb hby at_62) rfl (pc' := 64) rfl ?_
    refine R.iload X13 hx (hb hby at_64) rfl (pc' := 66) rfl ?_
    refine R.callS X13 hx hZ (y := mY1) hown w_4 w_5 w_2 w_6 (by decide) e13 (rm2 l Z aZ hw [] i1 i4 i6 i8 h0 n0 Z0 (hla)) (by decide) (W := 0) (Nat.le_of_eq rfl) (by decide) (by rw [hml]; rfl) (lenOf pd_1 rfl) rfl (hb hby at_66) (pc' := 69) rfl (by decide) (by decide) ?_; intro v15 T15 L15 X15 hQ15
    obtain ⟨r_15, kr_15, hr_15, rfl, N15q, Kc15, P15_0, P15_1, P15_2, P15_3, P15_4⟩ := hQ15
    have N15 := Fr.app N13 N15q
    generalize e15 : T15.heap = h15 at Kc15 P15_0 P15_1 P15_2 P15_3 P15_4
    have K15 : Keep h0 h15 [] := K0.trans Kc15 (all0)
    have Z15 : n0 ≤ h15.size := Nat.le_trans Z0 Kc15.1
    have g_r_15 : n0 ≤ r_15 := Nat.le_trans Z0 P15_0
    have sz_r_15 : h0.size ≤ r_15 := Nat.le_trans K0.1 P15_0
    have fresh_15 := P15_0
    have V_r_15 : Arh Z h15 r_15 kr_15 .double i1 hr_15 [] (.double (0 : UInt64)) := P15_1
    have V_r_15 : Arh Z h15 r_15 kr_15 .double i1 hr_15 [] (.double (0 : UInt64)) := V_r_15
    have m0_15 := P15_2
    have m1_15 := P15_3
    have m2_15 := P15_4
    refine R.astore X15 hx (hb hby at_69) rfl (L' := #[.val (.int p0), .val (.int p1), .val (.int p2), .val (.int p3), .val (.int p4), .val (.int p5), .val (.int i1), .val (.int i2), .val (.int i4), .val (.int i6), .val (.int i8), .val (.int i10), .val (.int i12), .val (.int i14), .val (.ref r_15), .unset, .unset, .unset, .unset, .unset, .unset, .unset, .unset, .unset, .unset, .unset, .unset, .unset, .unset, .unset, .unset, .unset, .unset, .unset, .unset, .unset, .unset, .unset, .unset]) rfl (pc' := 71) rfl ?_
    refine R.iload X15 hx (hb hby at_71) rfl (pc' := 73) rfl ?_
    refine R.iload X15 hx (hb hby at_73) rfl (pc' := 75) rfl ?_
    refine R.iload X15 hx (hb hby at_75) rfl (pc' := 77) rfl ?_
    refine R.iload X15 hx (hb hby at_77) rfl (pc' := 79) rfl ?_
    refine R.callS X15 hx hZ (y := mY1) hown w_4 w_5 w_2 w_6 (by decide) e15 (rm2 l Z aZ hw [] i2 i10 i12 i14 h15 n0 Z15 (hlb)) (by decide) (W := 0) (Nat.le_of_eq rfl) (by decide) (by rw [hml]; rfl) (lenOf pd_1 rfl) rfl (hb hby at_79) (pc' := 82) rfl (by decide) (by decide) ?_; intro v16 T16 L16 X16 hQ16
    obtain ⟨r_16, kr_16, hr_16, rfl, N16q, Kc16, P16_0, P16_1, P16_2, P16_3, P16_4⟩ := hQ16
    have N16 := Fr.app N15 N16q
    generalize e16 : T16.heap = h16 at Kc16 P16_0 P16_1 P16_2 P16_3 P16_4
    have K16 : Keep h0 h16 [] := K15.trans Kc16 (all0)
    have Z16 : n0 ≤ h16.size := Nat.le_trans Z15 Kc16.1
    have ne_r_15_r_16 : r_15 ≠ r_16 := Nat.ne_of_lt (Nat.lt_of_lt_of_le V_r_15.lt P16_0)
    have g_r_16 : n0 ≤ r_16 := Nat.le_trans Z15 P16_0
    have sz_r_16 : h0.size ≤ r_16 := Nat.le_trans K15.1 P16_0
    have V_r_15 := V_r_15.keep Kc16 nin0
    have fresh_16 := P16_0
    have V_r_16 : Arh Z h16 r_16 kr_16 .double i2 hr_16 [] (.double (0 : UInt64)) := P16_1
    have V_r_16 : Arh Z h16 r_16 kr_16 .double i2 hr_16 [] (.double (0 : UInt64)) := V_r_16
    have m0_16 := P16_2
    have m1_16 := P16_3
    have m2_16 := P16_4
    refine R.astore X16 hx (hb hby at_82) rfl (L' := #[.val (.int p0), .val (.int p1), .val (.int p2), .val (.int p3), .val (.int p4), .val (.int p5), .val (.int i1), .val (.int i2), .val (.int i4), .val (.int i6), .val (.int i8), .val (.int i10), .val (.int i12), .val (.int i14), .val (.ref r_15), .val (.ref r_16), .unset, .unset, .unset, .unset, .unset, .unset, .unset, .unset, .unset, .unset, .unset, .unset, .unset, .unset, .unset, .unset, .unset, .unset, .unset, .unset, .unset, .unset, .unset]) rfl (pc' := 84) rfl ?_
    refine R.iload X16 hx (hb hby at_84) rfl (pc' := 86) rfl ?_
    refine R.i2l X16 hx (hb hby at_86) (pc' := 87) rfl ?_
    show Rn p e below (T16.setTop (mkF m 87 #[.val (.int p0), .val (.int p1), .val (.int p2), .val (.int p3), .val (.int p4), .val (.int p5), .val (.int i1), .val (.int i2), .val (.int i4), .val (.int i6), .val (.int i8), .val (.int i10), .val (.int i12), .val (.int i14), .val (.ref r_15), .val (.ref r_16), .unset, .unset, .unset, .unset, .unset, .unset, .unset, .unset, .unset, .unset, .unset, .unset, .unset, .unset, .unset, .unset, .unset, .unset, .unset, .unset, .unset, .unset, .unset] [(.long (i4.toInt64))])) G
    generalize hj17 : (i4.toInt64) = j17
    refine R.lstore X16 hx (hb hby at_87) (L' := #[.val (.int p0), .val (.int p1), .val (.int p2), .val (.int p3), .val (.int p4), .val (.int p5), .val (.int i1), .val (.int i2), .val (.int i4), .val (.int i6), .val (.int i8), .val (.int i10), .val (.int i12), .val (.int i14), .val (.ref r_15), .val (.ref r_16), .val (.long j17), .second, .unset, .unset, .unset, .unset, .unset, .unset, .unset, .unset, .unset, .unset, .unset, .unset, .unset, .unset, .unset, .unset, .unset, .unset, .unset, .unset, .unset]) rfl (pc' := 89) rfl ?_
    have E16 : j17.toInt = i4.toInt := by rw [← hj17, Int32.toInt_toInt64]
    have J102 : ∀ (v18 : Int64) (u18 : (1 : Int32) < i1 → v18.toInt = i6.toInt) (w18 : ¬ (1 : Int32) < i1 → v18.toInt = 0), Rn p e below (T16.setTop (mkF m 102 #[.val (.int p0), .val (.int p1), .val (.int p2), .val (.int p3), .val (.int p4), .val (.int p5), .val (.int i1), .val (.int i2), .val (.int i4), .val (.int i6), .val (.int i8), .val (.int i10), .val (.int i12), .val (.int i14), .val (.ref r_15), .val (.ref r_16), .val (.long j17), .second, .unset, .unset, .unset, .unset, .unset, .unset, .unset, .unset, .unset, .unset, .unset, .unset, .unset, .unset, .unset, .unset, .unset, .unset, .unset, .unset, .unset] [(.long v18)])) G := by
      intro v18 u18 w18
      refine R.lstore X16 hx (hb hby at_102) (L' := #[.val (.int p0), .val (.int p1), .val (.int p2), .val (.int p3), .val (.int p4), .val (.int p5), .val (.int i1), .val (.int i2), .val (.int i4), .val (.int i6), .val (.int i8), .val (.int i10), .val (.int i12), .val (.int i14), .val (.ref r_15), .val (.ref r_16), .val (.long j17), .second, .val (.long v18), .second, .unset, .unset, .unset, .unset, .unset, .unset, .unset, .unset, .unset, .unset, .unset, .unset, .unset, .unset, .unset, .unset, .unset, .unset, .unset]) rfl (pc' := 104) rfl ?_
      have J117 : ∀ (v20 : Int64) (u20 : (2 : Int32) < i1 → v20.toInt = i8.toInt) (w20 : ¬ (2 : Int32) < i1 → v20.toInt = 0), Rn p e below (T16.setTop (mkF m 117 #[.val (.int p0), .val (.int p1), .val (.int p2), .val (.int p3), .val (.int p4), .val (.int p5), .val (.int i1), .val (.int i2), .val (.int i4), .val (.int i6), .val (.int i8), .val (.int i10), .val (.int i12), .val (.int i14), .val (.ref r_15), .val (.ref r_16), .val (.long j17), .second, .val (.long v18), .second, .unset, .unset, .unset, .unset, .unset, .unset, .unset, .unset, .unset, .unset, .unset, .unset, .unset, .unset, .unset, .unset, .unset, .unset, .unset] [(.long v20)])) G := by
        intro v20 u20 w20
        refine R.lstore X16 hx (hb hby at_117) (L' := #[.val (.int p0), .val (.int p1), .val (.int p2), .val (.int p3), .val (.int p4), .val (.int p5), .val (.int i1), .val (.int i2), .val (.int i4), .val (.int i6), .val (.int i8), .val (.int i10), .val (.int i12), .val (.int i14), .val (.ref r_15), .val (.ref r_16), .val (.long j17), .second, .val (.long v18), .second, .val (.long v20), .second, .unset, .unset, .unset, .unset, .unset, .unset, .unset, .unset, .unset, .unset, .unset, .unset, .unset, .unset, .unset, .unset, .unset]) rfl (pc' := 119) rfl ?_
        refine R.iload X16 hx (hb hby at_119) rfl (pc' := 121) rfl ?_
        refine R.i2l X16 hx (hb hby at_121) (pc' := 122) rfl ?_
        show Rn p e below (T16.setTop (mkF m 122 #[.val (.int p0), .val (.int p1), .val (.int p2), .val (.int p3), .val (.int p4), .val (.int p5), .val (.int i1), .val (.int i2), .val (.int i4), .val (.int i6), .val (.int i8), .val (.int i10), .val (.int i12), .val (.int i14), .val (.ref r_15), .val (.ref r_16), .val (.long j17), .second, .val (.long v18), .second, .val (.long v20), .second, .unset, .unset, .unset, .unset, .unset, .unset, .unset, .unset, .unset, .unset, .unset, .unset, .unset, .unset, .unset, .unset, .unset] [(.long (i10.toInt64))])) G
        generalize hj18 : (i10.toInt64) = j18
        refine R.lstore X16 hx (hb hby at_122) (L' := #[.val (.int p0), .val (.int p1), .val (.int p2), .val (.int p3), .val (.int p4), .val (.int p5), .val (.int i1), .val (.int i2), .val (.int i4), .val (.int i6), .val (.int i8), .val (.int i10), .val (.int i12), .val (.int i14), .val (.ref r_15), .val (.ref r_16), .val (.long j17), .second, .val (.long v18), .second, .val (.long v20), .second, .val (.long j18), .second, .unset, .unset, .unset, .unset, .unset, .unset, .unset, .unset, .unset, .unset, .unset, .unset, .unset, .unset, .unset]) rfl (pc' := 124) rfl ?_
        have E22 : j18.toInt = i10.toInt := by rw [← hj18, Int32.toInt_toInt64]
        have J137 : ∀ (v24 : Int64) (u24 : (1 : Int32) < i2 → v24.toInt = i12.toInt) (w24 : ¬ (1 : Int32) < i2 → v24.toInt = 0), Rn p e below (T16.setTop (mkF m 137 #[.val (.int p0), .val (.int p1), .val (.int p2), .val (.int p3), .val (.int p4), .val (.int p5), .val (.int i1), .val (.int i2), .val (.int i4), .val (.int i6), .val (.int i8), .val (.int i10), .val (.int i12), .val (.int i14), .val (.ref r_15), .val (.ref r_16), .val (.long j17), .second, .val (.long v18), .second, .val (.long v20), .second, .val (.long j18), .second, .unset, .unset, .unset, .unset, .unset, .unset, .unset, .unset, .unset, .unset, .unset, .unset, .unset, .unset, .unset] [(.long v24)])) G := by
          intro v24 u24 w24
          refine R.lstore X16 hx (hb hby at_137) (L' := #[.val (.int p0), .val (.int p1), .val (.int p2), .val (.int p3), .val (.int p4), .val (.int p5), .val (.int i1), .val (.int i2), .val (.int i4), .val (.int i6), .val (.int i8), .val (.int i10), .val (.int i12), .val (.int i14), .val (.ref r_15), .val (.ref r_16), .val (.long j17), .second, .val (.long v18), .second, .val (.long v20), .second, .val (.long j18), .second, .val (.long v24), .second, .unset, .unset, .unset, .unset, .unset, .unset, .unset, .unset, .unset, .unset, .unset, .unset, .unset]) rfl (pc' := 139) rfl ?_
          have J152 : ∀ (v26 : Int64) (u26 : (2 : Int32) < i2 → v26.toInt = i14.toInt) (w26 : ¬ (2 : Int32) < i2 → v26.toInt = 0), Rn p e below (T16.setTop (mkF m 152 #[.val (.int p0), .val (.int p1), .val (.int p2), .val (.int p3), .val (.int p4), .val (.int p5), .val (.int i1), .val (.int i2), .val (.int i4), .val (.int i6), .val (.int i8), .val (.int i10), .val (.int i12), .val (.int i14), .val (.ref r_15), .val (.ref r_16), .val (.long j17), .second, .val (.long v18), .second, .val (.long v20), .second, .val (.long j18), .second, .val (.long v24), .second, .unset, .unset, .unset, .unset, .unset, .unset, .unset, .unset, .unset, .unset, .unset, .unset, .unset] [(.long v26)])) G := by
            intro v26 u26 w26
            refine R.lstore X16 hx (hb hby at_152) (L' := #[.val (.int p0), .val (.int p1), .val (.int p2), .val (.int p3), .val (.int p4), .val (.int p5), .val (.int i1), .val (.int i2), .val (.int i4), .val (.int i6), .val (.int i8), .val (.int i10), .val (.int i12), .val (.int i14), .val (.ref r_15), .val (.ref r_16), .val (.long j17), .second, .val (.long v18), .second, .val (.long v20), .second, .val (.long j18), .second, .val (.long v24), .second, .val (.long v26), .second, .unset, .unset, .unset, .unset, .unset, .unset, .unset, .unset, .unset, .unset, .unset]) rfl (pc' := 154) rfl ?_
            have b_18 : own_ab v18.toInt 1048576 := by by_cases q : (1 : Int32) < i1; (rw [u18 q]; exact b_9); (rw [w18 q]; exact own_ab01)
            have b_20 : own_ab v20.toInt 1048576 := by by_cases q : (2 : Int32) < i1; (rw [u20 q]; exact b_10); (rw [w20 q]; exact own_ab01)
            have b_24 : own_ab v24.toInt 1048576 := by by_cases q : (1 : Int32) < i2; (rw [u24 q]; exact b_12); (rw [w24 q]; exact own_ab01)
            have b_26 : own_ab v26.toInt 1048576 := by by_cases q : (2 : Int32) < i2; (rw [u26 q]; exact b_13); (rw [w26 q]; exact own_ab01)
            have b_16 : own_ab j17.toInt 1048576 := by rw [E16]; exact b_8
            have b_22 : own_ab j18.toInt 1048576 := by rw [E22]; exact b_11
            have p_16_22 := own_ab.mul b_16 b_22
            have t_16_22 : (j17 * j18).toInt = j17.toInt * j18.toInt := own_mulL (p_16_22.ltn (by decide))
            have p_16_24 := own_ab.mul b_16 b_24
            have t_16_24 : (j17 * v24).toInt = j17.toInt * v24.toInt := own_mulL (p_16_24.ltn (by decide))
            have p_16_26 := own_ab.mul b_16 b_26
            have t_16_26 : (j17 * v26).toInt = j17.toInt * v26.toInt := own_mulL (p_16_26.ltn (by decide))
            have p_18_22 := own_ab.mul b_18 b_22
            have t_18_22 : (v18 * j18).toInt = v18.toInt * j18.toInt := own_mulL (p_18_22.ltn (by decide))
            have p_18_24 := own_ab.mul b_18 b_24
            have t_18_24 : (v18 * v24).toInt = v18.toInt * v24.toInt := own_mulL (p_18_24.ltn (by decide))
            have p_18_26 := own_ab.mul b_18 b_26
            have t_18_26 : (v18 * v26).toInt = v18.toInt * v26.toInt := own_mulL (p_18_26.ltn (by decide))
            have p_20_22 := own_ab.mul b_20 b_22
            have t_20_22 : (v20 * j18).toInt = v20.toInt * j18.toInt := own_mulL (p_20_22.ltn (by decide))
            have p_20_24 := own_ab.mul b_20 b_24
            have t_20_24 : (v20 * v24).toInt = v20.toInt * v24.toInt := own_mulL (p_20_24.ltn (by decide))
            have p_20_26 := own_ab.mul b_20 b_26
            have t_20_26 : (v20 * v26).toInt = v20.toInt * v26.toInt := own_mulL (p_20_26.ltn (by decide))
            refine R.aload X16 hx (hb hby at_154) rfl rfl (pc' := 156) rfl ?_
            refine R.aload X16 hx (hb hby at_156) rfl rfl (pc' := 158) rfl ?_
            refine R.callS X16 hx hZ (y := mY2) hown w_8 w_9 w_10 w_11 (by decide) e16 (rm3 l Z aZ hw [] r_15 r_16 kr_15 kr_16 i1 i2 hr_15 hr_16 (FP.i2d i4) (FP.i2d i6) (FP.i2d i8) (FP.i2d i10) (FP.i2d i12) (FP.i2d i14) j17.toInt v18.toInt v20.toInt j18.toInt v24.toInt v26.toInt h16 n0 Z16 V_r_15 (hla) (m0_15) (m1_15) (m2_15) ((Dy.i2d _).cast E16.symm rfl) (fun q => (Dy.i2d _).cast (u18 q).symm rfl) (fun q => (Dy.i2d _).cast (u20 q).symm rfl) (w18) (w20) (b_16) (b_18) (b_20) V_r_16 (hlb) (m0_16) (m1_16) (m2_16) ((Dy.i2d _).cast E22.symm rfl) (fun q => (Dy.i2d _).cast (u24 q).symm rfl) (fun q => (Dy.i2d _).cast (u26 q).symm rfl) (w24) (w26) (b_22) (b_24) (b_26)) (by decide) (W := 0) (Nat.le_of_eq rfl) (by decide) (by rw [hml]; rfl) (lenOf pd_2 rfl) rfl (hb hby at_158) (pc' := 161) rfl (by decide) (by decide) ?_; intro v19 T19 L19 X19 hQ19
            obtain ⟨r_19, kr_19, hr_19, rfl, N19q, Kc19, P19_0, P19_1, P19_2, P19_3, P19_4, P19_5, P19_6⟩ := hQ19
            have N19 := Fr.app N16 N19q
            generalize e19 : T19.heap = h19 at Kc19 P19_0 P19_1 P19_2 P19_3 P19_4 P19_5 P19_6
            have K19 : Keep h0 h19 [] := K16.trans Kc19 (all0)
            have Z19 : n0 ≤ h19.size := Nat.le_trans Z16 Kc19.1
            have ne_r_15_r_19 : r_15 ≠ r_19 := Nat.ne_of_lt (Nat.lt_of_lt_of_le V_r_15.lt P19_0)
            have ne_r_16_r_19 : r_16 ≠ r_19 := Nat.ne_of_lt (Nat.lt_of_lt_of_le V_r_16.lt P19_0)
            have g_r_19 : n0 ≤ r_19 := Nat.le_trans Z16 P19_0
            have sz_r_19 : h0.size ≤ r_19 := Nat.le_trans K16.1 P19_0
            have V_r_15 := V_r_15.keep Kc19 nin0
            have V_r_16 := V_r_16.keep Kc19 nin0
            have fresh_19 := P19_0
            have V_r_19 : Arh Z h19 r_19 kr_19 .double ((i1 + i2) - (1 : Int32)) hr_19 [] (.double (0 : UInt64)) := P19_1
            have V_r_19 : Arh Z h19 r_19 kr_19 .double ((i1 + i2) - (1 : Int32)) hr_19 [] (.double (0 : UInt64)) := V_r_19
            have c0_19 := P19_2
            have c1_19 := P19_3
            have c2_19 := P19_4
            have c3_19 := P19_5
            have c4_19 := P19_6
            refine R.astore X19 hx (hb hby at_161) rfl (L' := #[.val (.int p0), .val (.int p1), .val (.int p2), .val (.int p3), .val (.int p4), .val (.int p5), .val (.int i1), .val (.int i2), .val (.int i4), .val (.int i6), .val (.int i8), .val (.int i10), .val (.int i12), .val (.int i14), .val (.ref r_15), .val (.ref r_16), .val (.long j17), .second, .val (.long v18), .second, .val (.long v20), .second, .val (.long j18), .second, .val (.long v24), .second, .val (.long v26), .second, .val (.ref r_19), .unset, .unset, .unset, .unset, .unset, .unset, .unset, .unset, .unset, .unset]) rfl (pc' := 163) rfl ?_
            refine R.aload X19 hx (hb hby at_163) rfl rfl (pc' := 165) rfl ?_
            refine R.alen X19 hx hZ e19 V_r_19 (hb hby at_165) (pc' := 166) rfl ?_
            refine R.iload X19 hx (hb hby at_166) rfl (pc' := 168) rfl ?_
            refine R.iload X19 hx (hb hby at_168) rfl (pc' := 170) rfl ?_
            refine R.iadd X19 hx (hb hby at_170) rfl (pc' := 171) rfl ?_
            refine R.iconst X19 hx (hb hby at_171) (v := (1 : Int32)) (by decide) (pc' := 172) rfl ?_
            refine R.isub X19 hx (hb hby at_172) rfl (pc' := 173) rfl ?_
            refine R.icmpYes X19 hx (hb hby at_173) (teq (rfl : ((i1 + i2) - (1 : Int32)) = ((i1 + i2) - (1 : Int32)))).1 (by decide) (pc' := 178) (by decide) ?_
            refine R.lload X19 hx (hb hby at_178) rfl (pc' := 180) rfl ?_
            refine R.lload X19 hx (hb hby at_180) rfl (pc' := 182) rfl ?_
            refine R.lmul X19 hx (hb hby at_182) rfl (pc' := 183) rfl ?_
            show Rn p e below (T19.setTop (mkF m 183 #[.val (.int p0), .val (.int p1), .val (.int p2), .val (.int p3), .val (.int p4), .val (.int p5), .val (.int i1), .val (.int i2), .val (.int i4), .val (.int i6), .val (.int i8), .val (.int i10), .val (.int i12), .val (.int i14), .val (.ref r_15), .val (.ref r_16), .val (.long j17), .second, .val (.long v18), .second, .val (.long v20), .second, .val (.long j18), .second, .val (.long v24), .second, .val (.long v26), .second, .val (.ref r_19), .unset, .unset, .unset, .unset, .unset, .unset, .unset, .unset, .unset, .unset] [(.long (j17 * j18))])) G
            generalize hj20 : (j17 * j18) = j20
            refine R.lstore X19 hx (hb hby at_183) (L' := #[.val (.int p0), .val (.int p1), .val (.int p2), .val (.int p3), .val (.int p4), .val (.int p5), .val (.int i1), .val (.int i2), .val (.int i4), .val (.int i6), .val (.int i8), .val (.int i10), .val (.int i12), .val (.int i14), .val (.ref r_15), .val (.ref r_16), .val (.long j17), .second, .val (.long v18), .second, .val (.long v20), .second, .val (.long j18), .second, .val (.long v24), .second, .val (.long v26), .second, .val (.ref r_19), .val (.long j20), .second, .unset, .unset, .unset, .unset, .unset, .unset, .unset, .unset]) rfl (pc' := 185) rfl ?_
            refine R.lload X19 hx (hb hby at_185) rfl (pc' := 187) rfl ?_
            refine R.lload X19 hx (hb hby at_187) rfl (pc' := 189) rfl ?_
            refine R.lmul X19 hx (hb hby at_189) rfl (pc' := 190) rfl ?_
            refine R.lload X19 hx (hb hby at_190) rfl (pc' := 192) rfl ?_
            refine R.lload X19 hx (hb hby at_192) rfl (pc' := 194) rfl ?_
            refine R.lmul X19 hx (hb hby at_194) rfl (pc' := 195) rfl ?_
            refine R.ladd X19 hx (hb hby at_195) rfl (pc' := 196) rfl ?_
            show Rn p e below (T19.setTop (mkF m 196 #[.val (.int p0), .val (.int p1), .val (.int p2), .val (.int p3), .val (.int p4), .val (.int p5), .val (.int i1), .val (.int i2), .val (.int i4), .val (.int i6), .val (.int i8), .val (.int i10), .val (.int i12), .val (.int i14), .val (.ref r_15), .val (.ref r_16), .val (.long j17), .second, .val (.long v18), .second, .val (.long v20), .second, .val (.long j18), .second, .val (.long v24), .second, .val (.long v26), .second, .val (.ref r_19), .val (.long j20), .second, .unset, .unset, .unset, .unset, .unset, .unset, .unset, .unset] [(.long ((j17 * v24) + (v18 * j18)))])) G
            generalize hj21 : ((j17 * v24) + (v18 * j18)) = j21
            refine R.lstore X19 hx (hb hby at_196) (L' := #[.val (.int p0), .val (.int p1), .val (.int p2), .val (.int p3), .val (.int p4), .val (.int p5), .val (.int i1), .val (.int i2), .val (.int i4), .val (.int i6), .val (.int i8), .val (.int i10), .val (.int i12), .val (.int i14), .val (.ref r_15), .val (.ref r_16), .val (.long j17), .second, .val (.long v18), .second, .val (.long v20), .second, .val (.long j18), .second, .val (.long v24), .second, .val (.long v26), .second, .val (.ref r_19), .val (.long j20), .second, .val (.long j21), .second, .unset, .unset, .unset, .unset, .unset, .unset]) rfl (pc' := 198) rfl ?_
            refine R.lload X19 hx (hb hby at_198) rfl (pc' := 200) rfl ?_
            refine R.lload X19 hx (hb hby at_200) rfl (pc' := 202) rfl ?_
            refine R.lmul X19 hx (hb hby at_202) rfl (pc' := 203) rfl ?_
            refine R.lload X19 hx (hb hby at_203) rfl (pc' := 205) rfl ?_
            refine R.lload X19 hx (hb hby at_205) rfl (pc' := 207) rfl ?_
            refine R.lmul X19 hx (hb hby at_207) rfl (pc' := 208) rfl ?_
            refine R.ladd X19 hx (hb hby at_208) rfl (pc' := 209) rfl ?_
            refine R.lload X19 hx (hb hby at_209) rfl (pc' := 211) rfl ?_
            refine R.lload X19 hx (hb hby at_211) rfl (pc' := 213) rfl ?_
            refine R.lmul X19 hx (hb hby at_213) rfl (pc' := 214) rfl ?_
            refine R.ladd X19 hx (hb hby at_214) rfl (pc' := 215) rfl ?_
            show Rn p e below (T19.setTop (mkF m 215 #[.val (.int p0), .val (.int p1), .val (.int p2), .val (.int p3), .val (.int p4), .val (.int p5), .val (.int i1), .val (.int i2), .val (.int i4), .val (.int i6), .val (.int i8), .val (.int i10), .val (.int i12), .val (.int i14), .val (.ref r_15), .val (.ref r_16), .val (.long j17), .second, .val (.long v18), .second, .val (.long v20), .second, .val (.long j18), .second, .val (.long v24), .second, .val (.long v26), .second, .val (.ref r_19), .val (.long j20), .second, .val (.long j21), .second, .unset, .unset, .unset, .unset, .unset, .unset] [(.long (((j17 * v26) + (v18 * v24)) + (v20 * j18)))])) G
            generalize hj22 : (((j17 * v26) + (v18 * v24)) + (v20 * j18)) = j22
            refine R.lstore X19 hx (hb hby at_215) (L' := #[.val (.int p0), .val (.int p1), .val (.int p2), .val (.int p3), .val (.int p4), .val (.int p5), .val (.int i1), .val (.int i2), .val (.int i4), .val (.int i6), .val (.int i8), .val (.int i10), .val (.int i12), .val (.int i14), .val (.ref r_15), .val (.ref r_16), .val (.long j17), .second, .val (.long v18), .second, .val (.long v20), .second, .val (.long j18), .second, .val (.long v24), .second, .val (.long v26), .second, .val (.ref r_19), .val (.long j20), .second, .val (.long j21), .second, .val (.long j22), .second, .unset, .unset, .unset, .unset]) rfl (pc' := 217) rfl ?_
            refine R.lload X19 hx (hb hby at_217) rfl (pc' := 219) rfl ?_
            refine R.lload X19 hx (hb hby at_219) rfl (pc' := 221) rfl ?_
            refine R.lmul X19 hx (hb hby at_221) rfl (pc' := 222) rfl ?_
            refine R.lload X19 hx (hb hby at_222) rfl (pc' := 224) rfl ?_
            refine R.lload X19 hx (hb hby at_224) rfl (pc' := 226) rfl ?_
            refine R.lmul X19 hx (hb hby at_226) rfl (pc' := 227) rfl ?_
            refine R.ladd X19 hx (hb hby at_227) rfl (pc' := 228) rfl ?_
            show Rn p e below (T19.setTop (mkF m 228 #[.val (.int p0), .val (.int p1), .val (.int p2), .val (.int p3), .val (.int p4), .val (.int p5), .val (.int i1), .val (.int i2), .val (.int i4), .val (.int i6), .val (.int i8), .val (.int i10), .val (.int i12), .val (.int i14), .val (.ref r_15), .val (.ref r_16), .val (.long j17), .second, .val (.long v18), .second, .val (.long v20), .second, .val (.long j18), .second, .val (.long v24), .second, .val (.long v26), .second, .val (.ref r_19), .val (.long j20), .second, .val (.long j21), .second, .val (.long j22), .second, .unset, .unset, .unset, .unset] [(.long ((v18 * v26) + (v20 * v24)))])) G
            generalize hj23 : ((v18 * v26) + (v20 * v24)) = j23
            refine R.lstore X19 hx (hb hby at_228) (L' := #[.val (.int p0), .val (.int p1), .val (.int p2), .val (.int p3), .val (.int p4), .val (.int p5), .val (.int i1), .val (.int i2), .val (.int i4), .val (.int i6), .val (.int i8), .val (.int i10), .val (.int i12), .val (.int i14), .val (.ref r_15), .val (.ref r_16), .val (.long j17), .second, .val (.long v18), .second, .val (.long v20), .second, .val (.long j18), .second, .val (.long v24), .second, .val (.long v26), .second, .val (.ref r_19), .val (.long j20), .second, .val (.long j21), .second, .val (.long j22), .second, .val (.long j23), .second, .unset, .unset]) rfl (pc' := 230) rfl ?_
            refine R.lload X19 hx (hb hby at_230) rfl (pc' := 232) rfl ?_
            refine R.lload X19 hx (hb hby at_232) rfl (pc' := 234) rfl ?_
            refine R.lmul X19 hx (hb hby at_234) rfl (pc' := 235) rfl ?_
            show Rn p e below (T19.setTop (mkF m 235 #[.val (.int p0), .val (.int p1), .val (.int p2), .val (.int p3), .val (.int p4), .val (.int p5), .val (.int i1), .val (.int i2), .val (.int i4), .val (.int i6), .val (.int i8), .val (.int i10), .val (.int i12), .val (.int i14), .val (.ref r_15), .val (.ref r_16), .val (.long j17), .second, .val (.long v18), .second, .val (.long v20), .second, .val (.long j18), .second, .val (.long v24), .second, .val (.long v26), .second, .val (.ref r_19), .val (.long j20), .second, .val (.long j21), .second, .val (.long j22), .second, .val (.long j23), .second, .unset, .unset] [(.long (v20 * v26))])) G
            generalize hj24 : (v20 * v26) = j24
            refine R.lstore X19 hx (hb hby at_235) (L' := #[.val (.int p0), .val (.int p1), .val (.int p2), .val (.int p3), .val (.int p4), .val (.int p5), .val (.int i1), .val (.int i2), .val (.int i4), .val (.int i6), .val (.int i8), .val (.int i10), .val (.int i12), .val (.int i14), .val (.ref r_15), .val (.ref r_16), .val (.long j17), .second, .val (.long v18), .second, .val (.long v20), .second, .val (.long j18), .second, .val (.long v24), .second, .val (.long v26), .second, .val (.ref r_19), .val (.long j20), .second, .val (.long j21), .second, .val (.long j22), .second, .val (.long j23), .second, .val (.long j24), .second]) rfl (pc' := 237) rfl ?_
            have x_29 : j20.toInt = j17.toInt * j18.toInt := by rw [← hj20]; exact t_16_22
            have x_31 : j21.toInt = j17.toInt * v24.toInt + v18.toInt * j18.toInt := by rw [← hj21, own_addL] <;> rw [t_16_24, t_18_22]; exact (own_ab.add p_16_24 p_18_22).ltn (by decide)
            have y_33 : ((j17 * v26) + (v18 * v24)).toInt = j17.toInt * v26.toInt + v18.toInt * v24.toInt := by rw [own_addL] <;> rw [t_16_26, t_18_24]; exact (own_ab.add p_16_26 p_18_24).ltn (by decide)
            have x_33 : j22.toInt = j17.toInt * v26.toInt + v18.toInt * v24.toInt + v20.toInt * j18.toInt := by rw [← hj22, own_addL] <;> rw [y_33, t_20_22]; exact (own_ab.add (own_ab.add p_16_26 p_18_24) p_20_22).ltn (by decide)
            have x_35 : j23.toInt = v18.toInt * v26.toInt + v20.toInt * v24.toInt := by rw [← hj23, own_addL] <;> rw [t_18_26, t_20_24]; exact (own_ab.add p_18_26 p_20_24).ltn (by decide)
            have x_37 : j24.toInt = v20.toInt * v26.toInt := by rw [← hj24]; exact t_20_26
            refine R.aload X19 hx (hb hby at_237) rfl rfl (pc' := 239) rfl ?_
            refine R.iconst X19 hx (hb hby at_239) (v := (0 : Int32)) (by decide) (pc' := 240) rfl ?_
            refine R.lload X19 hx (hb hby at_240) rfl (pc' := 242) rfl ?_
            refine R.callS X19 hx hZ (y := mY3) hown w_12 w_13 w_2 w_14 (by decide) e19 (rm4 l Z aZ hw [] r_19 (0 : Int32) j20 kr_19 ((i1 + i2) - (1 : Int32)) hr_19 h19 n0 Z19 V_r_19 (by decide) (fun q => by rw [x_29]; exact c0_19 q) (fun q => by rw [x_29]; exact own_rz0 hla hlb q u18 w18 u20 w20 u24 w24 u26 w26) (by rw [x_29]; exact (p_16_22).ltn (by decide))) (by decide) (W := 0) (Nat.le_of_eq rfl) (by decide) (by rw [hml]; rfl) (lenOf pd_3 rfl) rfl (hb hby at_242) (pc' := 245) rfl (by decide) (by decide) ?_; intro v25 T25 L25 X25 hQ25
            obtain ⟨rfl, N25q, e25⟩ := hQ25
            have N25 := Fr.app N19 N25q
            refine R.ifNo X25 hx (hb hby at_245) (feq (by decide : ¬ ((1 : Int32) = (0 : Int32)))).1 (pc' := 248) rfl ?_
            refine R.aload X25 hx (hb hby at_248) rfl rfl (pc' := 250) rfl ?_
            refine R.iconst X25 hx (hb hby at_250) (v := (1 : Int32)) (by decide) (pc' := 251) rfl ?_
            refine R.lload X25 hx (hb hby at_251) rfl (pc' := 253) rfl ?_
            refine R.callS X25 hx hZ (y := mY3) hown w_12 w_13 w_2 w_14 (by decide) e25 (rm4 l Z aZ hw [] r_19 (1 : Int32) j21 kr_19 ((i1 + i2) - (1 : Int32)) hr_19 h19 n0 Z19 V_r_19 (by decide) (fun q => by rw [x_31]; exact c1_19 q) (fun q => by rw [x_31]; exact own_rz1 hla hlb q u18 w18 u20 w20 u24 w24 u26 w26) (by rw [x_31]; exact ((own_ab.add p_16_24 p_18_22)).ltn (by decide))) (by decide) (W := 0) (Nat.le_of_eq rfl) (by decide) (by rw [hml]; rfl) (lenOf pd_3 rfl) rfl (hb hby at_253) (pc' := 256) rfl (by decide) (by decide) ?_; intro v26 T26 L26 X26 hQ26
            obtain ⟨rfl, N26q, e26⟩ := hQ26
            have N26 := Fr.app N25 N26q
            refine R.ifNo X26 hx (hb hby at_256) (feq (by decide : ¬ ((1 : Int32) = (0 : Int32)))).1 (pc' := 259) rfl ?_
            refine R.aload X26 hx (hb hby at_259) rfl rfl (pc' := 261) rfl ?_
            refine R.iconst X26 hx (hb hby at_261) (v := (2 : Int32)) (by decide) (pc' := 262) rfl ?_
            refine R.lload X26 hx (hb hby at_262) rfl (pc' := 264) rfl ?_
            refine R.callS X26 hx hZ (y := mY3) hown w_12 w_13 w_2 w_14 (by decide) e26 (rm4 l Z aZ hw [] r_19 (2 : Int32) j22 kr_19 ((i1 + i2) - (1 : Int32)) hr_19 h19 n0 Z19 V_r_19 (by decide) (fun q => by rw [x_33]; exact c2_19 q) (fun q => by rw [x_33]; exact own_rz2 hla hlb q u18 w18 u20 w20 u24 w24 u26 w26) (by rw [x_33]; exact ((own_ab.add (own_ab.add p_16_26 p_18_24) p_20_22)).ltn (by decide))) (by decide) (W := 0) (Nat.le_of_eq rfl) (by decide) (by rw [hml]; rfl) (lenOf pd_3 rfl) rfl (hb hby at_264) (pc' := 267) rfl (by decide) (by decide) ?_; intro v27 T27 L27 X27 hQ27
            obtain ⟨rfl, N27q, e27⟩ := hQ27
            have N27 := Fr.app N26 N27q
            refine R.ifNo X27 hx (hb hby at_267) (feq (by decide : ¬ ((1 : Int32) = (0 : Int32)))).1 (pc' := 270) rfl ?_
            refine R.aload X27 hx (hb hby at_270) rfl rfl (pc' := 272) rfl ?_
            refine R.iconst X27 hx (hb hby at_272) (v := (3 : Int32)) (by decide) (pc' := 273) rfl ?_
            refine R.lload X27 hx (hb hby at_273) rfl (pc' := 275) rfl ?_
            refine R.callS X27 hx hZ (y := mY3) hown w_12 w_13 w_2 w_14 (by decide) e27 (rm4 l Z aZ hw [] r_19 (3 : Int32) j23 kr_19 ((i1 + i2) - (1 : Int32)) hr_19 h19 n0 Z19 V_r_19 (by decide) (fun q => by rw [x_35]; exact c3_19 q) (fun q => by rw [x_35]; exact own_rz3 (A0 := 0) (B0 := 0) hla hlb q u18 w18 u20 w20 u24 w24 u26 w26) (by rw [x_35]; exact ((own_ab.add p_18_26 p_20_24)).ltn (by decide))) (by decide) (W := 0) (Nat.le_of_eq rfl) (by decide) (by rw [hml]; rfl) (lenOf pd_3 rfl) rfl (hb hby at_275) (pc' := 278) rfl (by decide) (by decide) ?_; intro v28 T28 L28 X28 hQ28
            obtain ⟨rfl, N28q, e28⟩ := hQ28
            have N28 := Fr.app N27 N28q
            refine R.ifNo X28 hx (hb hby at_278) (feq (by decide : ¬ ((1 : Int32) = (0 : Int32)))).1 (pc' := 281) rfl ?_
            refine R.aload X28 hx (hb hby at_281) rfl rfl (pc' := 283) rfl ?_
            refine R.iconst X28 hx (hb hby at_283) (v := (4 : Int32)) (by decide) (pc' := 284) rfl ?_
            refine R.lload X28 hx (hb hby at_284) rfl (pc' := 286) rfl ?_
            refine R.callS X28 hx hZ (y := mY3) hown w_12 w_13 w_2 w_14 (by decide) e28 (rm4 l Z aZ hw [] r_19 (4 : Int32) j24 kr_19 ((i1 + i2) - (1 : Int32)) hr_19 h19 n0 Z19 V_r_19 (by decide) (fun q => by rw [x_37]; exact c4_19 q) (fun q => by rw [x_37]; exact own_rz4 (A0 := 0) (B0 := 0) hla hlb q u18 w18 u20 w20 u24 w24 u26 w26) (by rw [x_37]; exact (p_20_26).ltn (by decide))) (by decide) (W := 0) (Nat.le_of_eq rfl) (by decide) (by rw [hml]; rfl) (lenOf pd_3 rfl) rfl (hb hby at_286) (pc' := 289) rfl (by decide) (by decide) ?_; intro v29 T29 L29 X29 hQ29
            obtain ⟨rfl, N29q, e29⟩ := hQ29
            have N29 := Fr.app N28 N29q
            refine R.ifNo X29 hx (hb hby at_289) (feq (by decide : ¬ ((1 : Int32) = (0 : Int32)))).1 (pc' := 292) rfl ?_
            refine R.aload X29 hx (hb hby at_292) rfl rfl (pc' := 294) rfl ?_
            refine R.iload X29 hx (hb hby at_294) rfl (pc' := 296) rfl ?_
            refine R.iload X29 hx (hb hby at_296) rfl (pc' := 298) rfl ?_
            refine R.iload X29 hx (hb hby at_298) rfl (pc' := 300) rfl ?_
            refine R.iload X29 hx (hb hby at_300) rfl (pc' := 302) rfl ?_
            refine R.callS X29 hx hZ (y := mY4) hown w_15 w_16 w_2 w_17 (by decide) e29 (rm5 l Z aZ hw [] r_15 i1 i4 i6 i8 kr_15 hr_15 h19 n0 Z19 V_r_15 (hla) (m0_15) (m1_15) (m2_15)) (by decide) (W := 0) (Nat.le_of_eq rfl) (by decide) (by rw [hml]; rfl) (lenOf pd_4 rfl) rfl (hb hby at_302) (pc' := 305) rfl (by decide) (by decide) ?_; intro v30 T30 L30 X30 hQ30
            obtain ⟨rfl, N30q, e30⟩ := hQ30
            have N30 := Fr.app N29 N30q
            refine R.ifNo X30 hx (hb hby at_305) (feq (by decide : ¬ ((1 : Int32) = (0 : Int32)))).1 (pc' := 308) rfl ?_
            refine R.aload X30 hx (hb hby at_308) rfl rfl (pc' := 310) rfl ?_
            refine R.iload X30 hx (hb hby at_310) rfl (pc' := 312) rfl ?_
            refine R.iload X30 hx (hb hby at_312) rfl (pc' := 314) rfl ?_
            refine R.iload X30 hx (hb hby at_314) rfl (pc' := 316) rfl ?_
            refine R.iload X30 hx (hb hby at_316) rfl (pc' := 318) rfl ?_
            refine R.callS X30 hx hZ (y := mY4) hown w_15 w_16 w_2 w_17 (by decide) e30 (rm5 l Z aZ hw [] r_16 i2 i10 i12 i14 kr_16 hr_16 h19 n0 Z19 V_r_16 (hlb) (m0_16) (m1_16) (m2_16)) (by decide) (W := 0) (Nat.le_of_eq rfl) (by decide) (by rw [hml]; rfl) (lenOf pd_4 rfl) rfl (hb hby at_318) (pc' := 321) rfl (by decide) (by decide) ?_; intro v31 T31 L31 X31 hQ31
            obtain ⟨rfl, N31q, e31⟩ := hQ31
            have N31 := Fr.app N30 N31q
            refine R.ifNo X31 hx (hb hby at_321) (feq (by decide : ¬ ((1 : Int32) = (0 : Int32)))).1 (pc' := 324) rfl ?_
            refine R.iconst X31 hx (hb hby at_324) (v := (1 : Int32)) (by decide) (pc' := 325) rfl ?_
            refine R.goto X31 hx (hb hby at_325) (by decide) (pc' := 329) (by decide) ?_
            rw [← hG]
            exact Rn.ret X31 (BodyLoose.notSynchronized Bd) (v := some (.int (1 : Int32))) (fun h => by rw [Bd.returns] at h; cases h) (Q := Q0 Z p0 p1 p2 p3 p4 p5 h0 n0) e31 (fun fs hr => retN X31 hx (t := .boolean) Bd.returns (by simp) (hb hby at_329) hr) ⟨rfl, N31⟩ (by decide) (by decide)
          refine R.iload X16 hx (hb hby at_139) rfl (pc' := 141) rfl ?_
          refine R.iconst X16 hx (hb hby at_141) (v := (2 : Int32)) (by decide) (pc' := 142) rfl ?_
          by_cases hc142 : (2 : Int32) < i2
          · refine R.icmpNo X16 hx (hb hby at_142) (tlt hc142).2.2.2 (pc' := 145) rfl ?_
            refine R.iload X16 hx (hb hby at_145) rfl (pc' := 147) rfl ?_
            refine R.i2l X16 hx (hb hby at_147) (pc' := 148) rfl ?_
            refine R.goto X16 hx (hb hby at_148) (by decide) (pc' := 152) (by decide) ?_
            exact J152 (i14.toInt64) (fun _ => Int32.toInt_toInt64 _) (fun q => absurd hc142 q)
          · refine R.icmpYes X16 hx (hb hby at_142) (flt hc142).2.2.2 (by decide) (pc' := 151) (by decide) ?_
            refine R.lconst X16 hx (hb hby at_151) (v := (0 : Int64)) (by decide) (pc' := 152) rfl ?_
            exact J152 (0 : Int64) (fun q => absurd q hc142) (fun _ => rfl)
        refine R.iload X16 hx (hb hby at_124) rfl (pc' := 126) rfl ?_
        refine R.iconst X16 hx (hb hby at_126) (v := (1 : Int32)) (by decide) (pc' := 127) rfl ?_
        by_cases hc127 : (1 : Int32) < i2
        · refine R.icmpNo X16 hx (hb hby at_127) (tlt hc127).2.2.2 (pc' := 130) rfl ?_
          refine R.iload X16 hx (hb hby at_130) rfl (pc' := 132) rfl ?_
          refine R.i2l X16 hx (hb hby at_132) (pc' := 133) rfl ?_
          refine R.goto X16 hx (hb hby at_133) (by decide) (pc' := 137) (by decide) ?_
          exact J137 (i12.toInt64) (fun _ => Int32.toInt_toInt64 _) (fun q => absurd hc127 q)
        · refine R.icmpYes X16 hx (hb hby at_127) (flt hc127).2.2.2 (by decide) (pc' := 136) (by decide) ?_
          refine R.lconst X16 hx (hb hby at_136) (v := (0 : Int64)) (by decide) (pc' := 137) rfl ?_
          exact J137 (0 : Int64) (fun q => absurd q hc127) (fun _ => rfl)
      refine R.iload X16 hx (hb hby at_104) rfl (pc' := 106) rfl ?_
      refine R.iconst X16 hx (hb hby at_106) (v := (2 : Int32)) (by decide) (pc' := 107) rfl ?_
      by_cases hc107 : (2 : Int32) < i1
      · refine R.icmpNo X16 hx (hb hby at_107) (tlt hc107).2.2.2 (pc' := 110) rfl ?_
        refine R.iload X16 hx (hb hby at_110) rfl (pc' := 112) rfl ?_
        refine R.i2l X16 hx (hb hby at_112) (pc' := 113) rfl ?_
        refine R.goto X16 hx (hb hby at_113) (by decide) (pc' := 117) (by decide) ?_
        exact J117 (i8.toInt64) (fun _ => Int32.toInt_toInt64 _) (fun q => absurd hc107 q)
      · refine R.icmpYes X16 hx (hb hby at_107) (flt hc107).2.2.2 (by decide) (pc' := 116) (by decide) ?_
        refine R.lconst X16 hx (hb hby at_116) (v := (0 : Int64)) (by decide) (pc' := 117) rfl ?_
        exact J117 (0 : Int64) (fun q => absurd q hc107) (fun _ => rfl)
    refine R.iload X16 hx (hb hby at_89) rfl (pc' := 91) rfl ?_
    refine R.iconst X16 hx (hb hby at_91) (v := (1 : Int32)) (by decide) (pc' := 92) rfl ?_
    by_cases hc92 : (1 : Int32) < i1
    · refine R.icmpNo X16 hx (hb hby at_92) (tlt hc92).2.2.2 (pc' := 95) rfl ?_
      refine R.iload X16 hx (hb hby at_95) rfl (pc' := 97) rfl ?_
      refine R.i2l X16 hx (hb hby at_97) (pc' := 98) rfl ?_
      refine R.goto X16 hx (hb hby at_98) (by decide) (pc' := 102) (by decide) ?_
      exact J102 (i6.toInt64) (fun _ => Int32.toInt_toInt64 _) (fun q => absurd hc92 q)
    · refine R.icmpYes X16 hx (hb hby at_92) (flt hc92).2.2.2 (by decide) (pc' := 101) (by decide) ?_
      refine R.lconst X16 hx (hb hby at_101) (v := (0 : Int64)) (by decide) (pc' := 102) rfl ?_
      exact J102 (0 : Int64) (fun q => absurd q hc92) (fun _ => rfl)
  exact (Rn.st (fun t k => castTop (ef_0 m p0 p1 p2 p3 p4 p5) k) first_ : Rn p e below (s₁.setTop (entryFrame m #[(.int p0), (.int p1), (.int p2), (.int p3), (.int p4), (.int p5)] maxLocals)) (Fn0 Z p0 p1 p2 p3 p4 p5 h0 n0 s))
set_option maxRecDepth 65536 in
set_option maxHeartbeats 40000000 in
theorem comes_1 {Post : Tables → Env → Array Value → State → Outcome → State → Prop} (hpost : ∀ tb e args s v u, (limb_1_1.after args s (.returned v) u = true ∧ limb_1_2.after args s (.returned v) u = true ∧ True) → FrameEnd s (.returned v) u (Jvm.fieldLocs frame_1_writes args s ++ Jvm.arrayLocs frame_1_arrays args s ++ Jvm.staticLocs frame_1_statics s) 16 128 → Post tb e args s (.returned v) u) :
    ArmFor flags0 classFile x code maxLocals ret World_1 tables_1 room_1 Calls_1 rest_1 Pre_1 Post := by
  intro l hfl _ _ p e ha hc hk s m args below hf hA hF happ hP
  obtain ⟨hcalls, hrest, hpre⟩ := hP
  obtain ⟨-, -, -, hnamed, -, -, -, hat⟩ := (Spec.applies_iff hf).mp happ
  obtain ⟨hg, hn⟩ := and_e (Cond.before_iff.mp (show (Jvm.Cond.and given_1 narrow_1).before args s = true from hpre))
  obtain ⟨g1, g2⟩ := and_e hg
  obtain ⟨g3, g4⟩ := and_e g2
  obtain ⟨g5, g6⟩ := and_e g4
  obtain ⟨g7, g8⟩ := and_e g6
  obtain ⟨g9, g10⟩ := and_e g8
  obtain ⟨g11, g12⟩ := and_e g10
  obtain ⟨w0, w1, w2, w3, w4, w5, rfl⟩ : ∃ w0 w1 w2 w3 w4 w5 : Value, args = #[w0, w1, w2, w3, w4, w5] := by
    have hs : args.size = 6 := by simpa [Cond.value, given_1] using g1
    obtain ⟨L⟩ := args
    match L, hs with
    | [w0, w1, w2, w3, w4, w5], _ => exact ⟨w0, w1, w2, w3, w4, w5, rfl⟩
  have hw := fun d (hd : d ∈ tables_1) => atoms_spec (ws := Jvm.Cond.code x code maxLocals ret :: tables_1) hat d (List.mem_cons_of_mem _ hd)
  obtain ⟨i0, ei0⟩ := is_v g3
  obtain rfl : w0 = (.int i0) := Option.some.inj ei0
  obtain ⟨i1, ei1⟩ := is_v g5
  obtain rfl : w1 = (.int i1) := Option.some.inj ei1
  obtain ⟨i2, ei2⟩ := is_v g7
  obtain rfl : w2 = (.int i2) := Option.some.inj ei2
  obtain ⟨i3, ei3⟩ := is_v g9
  obtain rfl : w3 = (.int i3) := Option.some.inj ei3
  obtain ⟨i4, ei4⟩ := is_v g11
  obtain rfl : w4 = (.int i4) := Option.some.inj ei4
  obtain ⟨i5, ei5⟩ := is_v g12
  obtain rfl : w5 = (.int i5) := Option.some.inj ei5
  obtain ⟨n, o, h1, h2, h3, _, L, rfl, ⟨rfl, N⟩, hq⟩ := rm0 l s _ hw tables_1 i0 i1 i2 i3 i4 i5 s.heap s.heap.size (Nat.le_refl _) p e ha hc hk s m _ below hf ((Spec.applies_iff_loose hf).mp happ).1 ⟨rfl, State.Warmed39.refl s, rfl⟩ trivial
  refine ⟨n, _, h1, h2, h3, hpost _ _ _ _ _ _ ⟨Cond.after_iff.mpr rfl, Cond.after_iff.mpr (eq_i res_at (Term.int_eval (1)) rfl), trivial⟩ ⟨hq.1, hq.2.1, (hq.2.2.sift fun y hy => Or.inr (N y hy)).mono (by decide) (by decide)⟩⟩
theorem main_1_1 : Claimed_1_1 := comes_1 fun _ _ _ _ _ _ h hF => ⟨h.1, hF⟩
theorem main_1_2 : Claimed_1_2 := comes_1 fun _ _ _ _ _ _ h hF => ⟨h.2.1, hF⟩
end Jvm.Pilot.@@N@@
namespace Jvm.Pilot.@@N@@
open Jvm Jvm.ClassFile Sem Op Lib Jvm.Free Jvm.Stand Jvm.Pilot.@@N@@.Jvm.D
/-! MADE BY PROGRAM (witnessworld.py) out of the Statement's table words and the real class files: 11 classes; the members and pool entries that the words name. The judged class is class 1, her method 5. -/
namespace start1
open Jvm.ClassFile
def u (s : String) : CpInfo := .utf8 (stringToUtf16 s)
/-- a pool by its gaps: so many unusable entries, then the entry; so many at the end -/
def gap : Nat → List CpInfo → List CpInfo
  | 0, r => r
  | n + 1, r => .unusable :: gap n r
def poolList (es : List (Nat × CpInfo)) (last : Nat) : List CpInfo := es.foldr (fun e r => gap e.1 (e.2 :: r)) (gap last [])
def pool (es : List (Nat × CpInfo)) (last : Nat) : Array CpInfo := ⟨poolList es last⟩
def fileOf (pool : Array CpInfo) (this : Nat) (attrs : Array Attribute := #[]) (ms : Array MethodInfo := #[]) (fl : Nat := 33) (sup : Nat := 0) (ifs : Array Nat := #[]) (fds : Array FieldInfo := #[]) : ClassFile where
  minorVersion := 0
  majorVersion := 65
  constantPool := pool
  accessFlags := fl
  thisClass := this
  superClass := sup
  interfaces := ifs
  fields := fds
  methods := ms
  attributes := attrs
def plain (name : String) (sup : Option ClassId) : Class where
  name := name
  kind := .ordinary
  loader := none
  accessFlags := 33
  super := sup
  interfaces := #[]
  cf := none
  fields := #[]
  methods := #[]
  instanceTypes := #[]
  staticTypes := #[]
  resolved := #[]
  callSites := []
  init := .initialized
  statics := none
  mirror := none

def pool0 : Array CpInfo := pool [(5, u "<init>"), (0, u "()V"), (1, .class_ 10), (1, u "java/lang/Object")] 113

def k0m0 : Method := { name := "<init>", desc := "()V", sig := { parameters := [], returnType := none }, accessFlags := 1, code := none }
/-- java/lang/Object -/
def k0 : Class := { plain "java/lang/Object" none with
  accessFlags := 33
  interfaces := #[]
  cf := some (fileOf pool0 8 #[] #[{ accessFlags := 1, nameIndex := 5, descriptorIndex := 6, attributes := #[] }] 33 0 #[] #[])
  fields := #[]
  methods := #[k0m0]
  instanceTypes := #[]
  staticTypes := #[]
  resolved := Array.replicate 124 none
  statics := none }

def pool1 : Array CpInfo := pool [(2, .class_ 4), (1, u "java/lang/Object"), (0, u "<init>"), (0, u "()V"), (0, .methodref 8 9), (0, .class_ 10), (0, .nameAndType 11 12), (0, u "com/example/deseason/deseason/arima/PolynomialsMultiplyPinLaw"), (0, u "coef"), (0, u "(I)I"), (0, .methodref 8 14), (0, .nameAndType 15 16), (0, u "make"), (0, u "(IIII)[D"), (0, .methodref 18 19), (0, .class_ 20), (0, .nameAndType 21 22), (0, u "com/example/deseason/deseason/arima/Polynomials"), (0, u "multiply"), (0, u "([D[D)[D"), (0, .methodref 8 24), (0, .nameAndType 25 26), (0, u "entry"), (0, u "([DIJ)Z"), (0, .methodref 8 28), (0, .nameAndType 29 30), (0, u "same"), (0, u "([DIIII)Z"), (3, u "law"), (0, u "(IIIIII)Z")] 4

def k1m0 : Method := { name := "<init>", desc := "()V", sig := { parameters := [], returnType := none }, accessFlags := 2, code := none }
def k1c1 : Code := { maxStack := 2, maxLocals := 1, code := method_2_code, exceptionTable := #[], attributes := #[] }
def k1m1 : Method := { name := "coef", desc := "(I)I", sig := { parameters := [.int], returnType := some .int }, accessFlags := 10, code := some k1c1 }
def k1c2 : Code := { maxStack := 5, maxLocals := 4, code := method_3_code, exceptionTable := #[], attributes := #[] }
def k1m2 : Method := { name := "make", desc := "(IIII)[D", sig := { parameters := [.int, .int, .int, .int], returnType := some (.array .double) }, accessFlags := 10, code := some k1c2 }
def k1c3 : Code := { maxStack := 4, maxLocals := 4, code := method_4_code, exceptionTable := #[], attributes := #[] }
def k1m3 : Method := { name := "entry", desc := "([DIJ)Z", sig := { parameters := [(.array .double), .int, .long], returnType := some .boolean }, accessFlags := 10, code := some k1c3 }
def k1c4 : Code := { maxStack := 4, maxLocals := 6, code := method_5_code, exceptionTable := #[], attributes := #[] }
def k1m4 : Method := { name := "same", desc := "([DIIII)Z", sig := { parameters := [(.array .double), .int, .int, .int, .int], returnType := some .boolean }, accessFlags := 10, code := some k1c4 }
def k1c5 : Code := { maxStack := 6, maxLocals := 39, code := code, exceptionTable := #[], attributes := #[] }
def k1m5 : Method := { name := "law", desc := "(IIIIII)Z", sig := { parameters := [.int, .int, .int, .int, .int, .int], returnType := some .boolean }, accessFlags := 9, code := some k1c5 }
/-- com/example/deseason/deseason/arima/PolynomialsMultiplyPinLaw -/
def k1 : Class := { plain "com/example/deseason/deseason/arima/PolynomialsMultiplyPinLaw" (some 0) with
  accessFlags := 49
  interfaces := #[]
  cf := some (fileOf pool1 8 #[] #[{ accessFlags := 2, nameIndex := 5, descriptorIndex := 6, attributes := #[] }, { accessFlags := 10, nameIndex := 11, descriptorIndex := 12, attributes := #[] }, { accessFlags := 10, nameIndex := 15, descriptorIndex := 16, attributes := #[] }, { accessFlags := 10, nameIndex := 25, descriptorIndex := 26, attributes := #[] }, { accessFlags := 10, nameIndex := 29, descriptorIndex := 30, attributes := #[] }, { accessFlags := 9, nameIndex := 34, descriptorIndex := 35, attributes := #[] }] 49 2 #[] #[])
  fields := #[]
  methods := #[k1m0, k1m1, k1m2, k1m3, k1m4, k1m5]
  instanceTypes := #[]
  staticTypes := #[]
  resolved := Array.replicate 40 none
  statics := none }

def pool2 : Array CpInfo := pool [(2, .class_ 4), (1, u "java/lang/Object"), (0, u "<init>"), (0, u "()V"), (18, .class_ 27), (1, u "com/example/deseason/deseason/arima/Polynomials"), (0, u "multiply"), (0, u "([D[D)[D")] 62

def k2m0 : Method := { name := "<init>", desc := "()V", sig := { parameters := [], returnType := none }, accessFlags := 2, code := none }
def k2c1 : Code := { maxStack := 8, maxLocals := 5, code := prog_10_method_3_code, exceptionTable := #[], attributes := #[] }
def k2m1 : Method := { name := "multiply", desc := "([D[D)[D", sig := { parameters := [(.array .double), (.array .double)], returnType := some (.array .double) }, accessFlags := 9, code := some k2c1 }
/-- com/example/deseason/deseason/arima/Polynomials -/
def k2 : Class := { plain "com/example/deseason/deseason/arima/Polynomials" (some 0) with
  accessFlags := 49
  interfaces := #[]
  cf := some (fileOf pool2 25 #[] #[{ accessFlags := 2, nameIndex := 5, descriptorIndex := 6, attributes := #[] }, { accessFlags := 9, nameIndex := 28, descriptorIndex := 29, attributes := #[] }] 49 2 #[] #[])
  fields := #[]
  methods := #[k2m0, k2m1]
  instanceTypes := #[]
  staticTypes := #[]
  resolved := Array.replicate 92 none
  statics := none }

def pool3 : Array CpInfo := pool [(1, u "java/lang/Cloneable"), (0, .class_ 1), (0, u "java/lang/Object"), (0, .class_ 3)] 3

/-- java/lang/Cloneable -/
def k3 : Class := { plain "java/lang/Cloneable" (some 0) with
  accessFlags := 1537
  interfaces := #[]
  cf := some (fileOf pool3 2 #[] #[] 1537 4 #[] #[])
  fields := #[]
  methods := #[]
  instanceTypes := #[]
  staticTypes := #[]
  resolved := Array.replicate 8 none
  statics := none }

def pool4 : Array CpInfo := pool [(1, u "java/io/Serializable"), (0, .class_ 1), (0, u "java/lang/Object"), (0, .class_ 3)] 3

/-- java/io/Serializable -/
def k4 : Class := { plain "java/io/Serializable" (some 0) with
  accessFlags := 1537
  interfaces := #[]
  cf := some (fileOf pool4 2 #[] #[] 1537 4 #[] #[])
  fields := #[]
  methods := #[]
  instanceTypes := #[]
  staticTypes := #[]
  resolved := Array.replicate 8 none
  statics := none }

/-- the primitive byte -/
def k5 : Class := { plain "byte" none with kind := .primitive 'B', accessFlags := 0x411 }
/-- [B -/
def k6 : Class := { plain "[B" (some 0) with kind := .array 5 .byte, interfaces := #[3, 4], accessFlags := 1041 }

/-- the primitive double -/
def k7 : Class := { plain "double" none with kind := .primitive 'D', accessFlags := 0x411 }
/-- [D -/
def k8 : Class := { plain "[D" (some 0) with kind := .array 7 .double, interfaces := #[3, 4], accessFlags := 1041 }

/-- the primitive int -/
def k9 : Class := { plain "int" none with kind := .primitive 'I', accessFlags := 0x411 }
/-- [I -/
def k10 : Class := { plain "[I" (some 0) with kind := .array 9 .int, interfaces := #[3, 4], accessFlags := 1041 }

def heap : Heap := #[]
def classes : Array Class := #[k0, k1, k2, k3, k4, k5, k6, k7, k8, k9, k10]
def interned : List (Array UInt16 × Addr) := []
def slotsUsed : Nat := 0
def theMethod : MethodId := ⟨1, 5⟩
def args0 : Array Value := #[.int 5, .int 5, .int 5, .int 5, .int 5, .int 5]
def aboutOver (below : List Frame) : State where
  vm := { classes := classes, interned := interned.toArray }
  heap := heap
  slotsUsed := slotsUsed
  threads := #[{ frames := .invoking theMethod args0 :: below }]
def below0 : List Frame := [.native { method := ⟨0, 0⟩, args := #[] }]
def about1 : State := aboutOver below0
def p0 : Program := .bare "" "" ""
def e0 : Env := launch0.env 0 0 0
theorem w_frames : about1.frames = Frame.invoking theMethod args0 :: below0 := rfl
set_option maxRecDepth 65536 in
theorem w_args : argsFit about1.vm theMethod args0 = true := by decide +kernel
set_option maxRecDepth 65536 in
theorem w_heap : heapFits about1 = true := by decide +kernel
set_option maxRecDepth 65536 in
theorem w_runnable : about1.curStatus? = some .runnable := by decide +kernel
set_option maxRecDepth 65536 in
theorem w_alone : about1.alone = true := by decide +kernel
set_option maxRecDepth 65536 in
theorem w_named : about1.methodNamed? x = some theMethod := by decide +kernel
set_option maxRecDepth 65536 in
theorem w_hears : about1.hears theMethod below0 = true := by decide +kernel
set_option maxRecDepth 65536 in
theorem w_ripe : about1.ripe theMethod args0 below0 = true := by decide +kernel
theorem w_running : about1.status = .running := rfl
set_option maxRecDepth 65536 in
theorem w_room : about1.hasRoom e0.platform room_1 = true :=
  launch0.hasRoom_least _ room_1 (by decide +kernel) (by decide +kernel) (by decide +kernel) (by decide +kernel) (by decide +kernel) (by decide +kernel)
theorem allAtoms_all (ts : List Jvm.Cond) (a : Array Jvm.Value) (st : Jvm.State) : (allAtoms ts).before a st = ts.all (fun c => c.before a st) := by
  induction ts with
  | nil => rfl
  | cons c t ih =>
    show (Jvm.Cond.and c (allAtoms t)).before a st = _
    rw [Jvm.Cond.before_and, ih, List.all_cons]
def words1 : List Jvm.Cond := Jvm.Cond.code x code maxLocals ret :: tables_1
/-- a 'code' word, met by the world's own term for the bytes: nothing is compared byte by byte -/
theorem code_word {y : MethodName} {bytes : ByteArray} {mx : Nat} {rt : Option FieldType} {a : Array Value} {s : State} {m : MethodId} {meth : Method} {c : Code} (h1 : s.methodNamed? y = some m) (h2 : s.vm.method? m = some meth) (h3 : meth.code = some c) (h4 : c.code = bytes)
    (h5 : (c.maxLocals == mx && c.exceptionTable.isEmpty && decide (c.maxStack ≤ mostOperands) && decide (meth.sig.returnType = rt) && !meth.locks && decide (parseMethodDescriptor y.desc = some meth.sig)) = true) : (Jvm.Cond.code y bytes mx rt).before a s = true := by
  simp only [Bool.and_eq_true, beq_iff_eq, Bool.not_eq_true', decide_eq_true_eq] at h5
  obtain ⟨⟨⟨⟨⟨g1, g2⟩, g3⟩, g4⟩, g5⟩, g6⟩ := h5
  simp [Cond.before, Cond.holds, Cond.value, h1, h2, h3, h4, g1, g2, g3, g4, g5, g6]
def isCode : Jvm.Cond → Bool
  | .code _ _ _ _ => true
  | _ => false
theorem all_split {L : List Jvm.Cond} {P : Jvm.Cond → Bool} (h1 : L.all (fun c => isCode c || P c) = true) (h2 : ∀ c ∈ L.filter isCode, P c = true) : L.all P = true := by
  refine List.all_eq_true.mpr fun c hc => ?_
  have h := List.all_eq_true.mp h1 c hc
  rcases Bool.eq_false_or_eq_true (isCode c) with hi | hi
  · exact h2 c (List.mem_filter.mpr ⟨hc, hi⟩)
  · simpa [hi] using h
set_option maxRecDepth 65536 in
theorem w_c0 : (Jvm.Cond.code x code maxLocals ret).before args0 about1 = true := code_word (m := ⟨1, 5⟩) (meth := k1m5) (c := k1c5) (by decide +kernel) rfl rfl rfl (by decide +kernel)
set_option maxRecDepth 65536 in
theorem w_c1 : (Jvm.Cond.code ({ cls := "com/example/deseason/deseason/arima/PolynomialsMultiplyPinLaw", name := "coef", desc := "(I)I" } : Jvm.MethodName) method_2_code (1 : Nat) (Option.some Jvm.ClassFile.FieldType.int)).before args0 about1 = true := code_word (m := ⟨1, 1⟩) (meth := k1m1) (c := k1c1) (by decide +kernel) rfl rfl rfl (by decide +kernel)
set_option maxRecDepth 65536 in
theorem w_c2 : (Jvm.Cond.code ({ cls := "com/example/deseason/deseason/arima/PolynomialsMultiplyPinLaw", name := "make", desc := "(IIII)[D" } : Jvm.MethodName) method_3_code (4 : Nat) (Option.some (Jvm.ClassFile.FieldType.array Jvm.ClassFile.FieldType.double))).before args0 about1 = true := code_word (m := ⟨1, 2⟩) (meth := k1m2) (c := k1c2) (by decide +kernel) rfl rfl rfl (by decide +kernel)
set_option maxRecDepth 65536 in
theorem w_c3 : (Jvm.Cond.code ({ cls := "com/example/deseason/deseason/arima/Polynomials", name := "multiply", desc := "([D[D)[D" } : Jvm.MethodName) prog_10_method_3_code (5 : Nat) (Option.some (Jvm.ClassFile.FieldType.array Jvm.ClassFile.FieldType.double))).before args0 about1 = true := code_word (m := ⟨2, 1⟩) (meth := k2m1) (c := k2c1) (by decide +kernel) rfl rfl rfl (by decide +kernel)
set_option maxRecDepth 65536 in
theorem w_c4 : (Jvm.Cond.code ({ cls := "com/example/deseason/deseason/arima/PolynomialsMultiplyPinLaw", name := "entry", desc := "([DIJ)Z" } : Jvm.MethodName) method_4_code (4 : Nat) (Option.some Jvm.ClassFile.FieldType.boolean)).before args0 about1 = true := code_word (m := ⟨1, 3⟩) (meth := k1m3) (c := k1c3) (by decide +kernel) rfl rfl rfl (by decide +kernel)
set_option maxRecDepth 65536 in
theorem w_c5 : (Jvm.Cond.code ({ cls := "com/example/deseason/deseason/arima/PolynomialsMultiplyPinLaw", name := "same", desc := "([DIIII)Z" } : Jvm.MethodName) method_5_code (6 : Nat) (Option.some Jvm.ClassFile.FieldType.boolean)).before args0 about1 = true := code_word (m := ⟨1, 4⟩) (meth := k1m4) (c := k1c4) (by decide +kernel) rfl rfl rfl (by decide +kernel)
def codes1 : List Jvm.Cond := [Jvm.Cond.code x code maxLocals ret, Jvm.Cond.code ({ cls := "com/example/deseason/deseason/arima/PolynomialsMultiplyPinLaw", name := "coef", desc := "(I)I" } : Jvm.MethodName) method_2_code (1 : Nat) (Option.some Jvm.ClassFile.FieldType.int), Jvm.Cond.code ({ cls := "com/example/deseason/deseason/arima/PolynomialsMultiplyPinLaw", name := "make", desc := "(IIII)[D" } : Jvm.MethodName) method_3_code (4 : Nat) (Option.some (Jvm.ClassFile.FieldType.array Jvm.ClassFile.FieldType.double)), Jvm.Cond.code ({ cls := "com/example/deseason/deseason/arima/Polynomials", name := "multiply", desc := "([D[D)[D" } : Jvm.MethodName) prog_10_method_3_code (5 : Nat) (Option.some (Jvm.ClassFile.FieldType.array Jvm.ClassFile.FieldType.double)), Jvm.Cond.code ({ cls := "com/example/deseason/deseason/arima/PolynomialsMultiplyPinLaw", name := "entry", desc := "([DIJ)Z" } : Jvm.MethodName) method_4_code (4 : Nat) (Option.some Jvm.ClassFile.FieldType.boolean), Jvm.Cond.code ({ cls := "com/example/deseason/deseason/arima/PolynomialsMultiplyPinLaw", name := "same", desc := "([DIIII)Z" } : Jvm.MethodName) method_5_code (6 : Nat) (Option.some Jvm.ClassFile.FieldType.boolean)]
set_option maxRecDepth 65536 in
theorem codes_eq : words1.filter isCode = codes1 := rfl
theorem w_codes : ∀ c ∈ words1.filter isCode, c.before args0 about1 = true := by
  rw [codes_eq]
  intro c hc
  simp only [codes1, List.mem_cons, List.not_mem_nil, or_false] at hc
  rcases hc with rfl | rfl | rfl | rfl | rfl | rfl
  · exact w_c0
  · exact w_c1
  · exact w_c2
  · exact w_c3
  · exact w_c4
  · exact w_c5
set_option maxRecDepth 65536 in
theorem w_t1 : words1.all (fun c => isCode c || c.before args0 about1) = true := by decide +kernel
theorem w_tables : (allAtoms (Jvm.Cond.code x code maxLocals ret :: tables_1)).before args0 about1 = true := by
  rw [allAtoms_all]
  show words1.all (fun c => c.before args0 about1) = true
  refine all_split ?_ w_codes
  rw [w_t1]
set_option maxRecDepth 65536 in
theorem w_case : (Jvm.Cond.and given_1 narrow_1).before args0 about1 = true := by decide +kernel
theorem w_applies : (headSpec (Jvm.Cond.code x code maxLocals ret :: tables_1) room_1).applies x e0.platform about1 = true :=
  (Spec.applies_iff w_frames).mpr ⟨w_running, w_runnable, w_alone, w_named, w_hears, w_ripe, w_room, w_tables⟩
theorem atStart : AtStart classFile x code maxLocals ret World_1 tables_1 room_1 Calls_1 rest_1 Pre_1 launch0 p0 e0 about1 theMethod args0 below0 :=
  ⟨lists_1, trivial, launch0.admits_env _ _ _, launch0.least_env, fairChoices_fair.cas, fairChoices_fair.clock, w_frames, w_args, w_heap, w_applies, trivial, trivial, w_case⟩
end start1
theorem witness_1 : WitnessClaimed_1 := ⟨start1.p0, start1.e0, start1.about1, start1.theMethod, start1.args0, start1.below0, start1.atStart⟩
end Jvm.Pilot.@@N@@

/-
  The order of float64's bits, by two integers: a float that is no NaN ranks as a pair; 'ford' compares the pairs. No Go in sight.
-/
import Derived.Test.Qxb6601457aPlain
import Derived.KernelRfl
namespace Go.Proofs.Qxb6601457a
set_option linter.unusedSimpArgs false
set_option linter.unusedVariables false
open Ieee

def isNan (x : Nat) : Bool := (FloatKind.f64.format.read x).isNaN

/-- The rank of a datum whose place is not below 'least'. -/
def rk1 (d : Datum) : Int := match d with
  | .infinity s => if s then -1 else 1
  | _ => 0
def rk2 (least : Int) (d : Datum) : Int := match d with
  | .number s m i => signed s m (i - least).toNat
  | _ => 0

def fr1 (x : Nat) : Int := rk1 (FloatKind.f64.format.read x)
def fr2 (x : Nat) : Int := rk2 double.leastPlace (FloatKind.f64.format.read x)

theorem signed_scale (s : Bool) (m a b : Nat) : signed s m (a + b) = signed s m a * 2 ^ b := by
  unfold signed
  have e : m <<< (a + b) = (m <<< a) * 2 ^ b := by rw [Nat.shiftLeft_add, Nat.shiftLeft_eq (m <<< a)]
  cases s
  · simp only [Bool.false_eq_true, if_false, e]
    rw [Int.natCast_mul, Int.natCast_pow]; rfl
  · simp only [if_true, e]
    rw [Int.natCast_mul, Int.natCast_pow, Int.neg_mul]; rfl

theorem compare_scale (a b : Int) (k : Nat) : compare (a * 2 ^ k) (b * 2 ^ k) = compare a b := by
  have hk : (0 : Int) < 2 ^ k := Int.pow_pos (by decide)
  rcases Int.lt_trichotomy a b with h | h | h
  · have h2 := Int.mul_lt_mul_of_pos_right h hk
    rw [Int.compare_eq_lt.2 h, Int.compare_eq_lt.2 h2]
  · rw [h]; simp
  · have h2 := Int.mul_lt_mul_of_pos_right h hk
    rw [Int.compare_eq_gt.2 h, Int.compare_eq_gt.2 h2]

theorem read_place (x : Nat) {s : Bool} {m : Nat} {i : Int} (h : FloatKind.f64.format.read x = .number s m i) : double.leastPlace ≤ i := by
  have hd : FloatKind.f64.format = double := rfl
  rw [hd] at h
  unfold Format.read at h
  simp only at h
  split at h
  · cases h; exact Int.le_refl _
  · split at h
    · simp only [Datum.number.injEq] at h
      omega
    · split at h <;> cases h

theorem compare_num {s t : Bool} {m n : Nat} {i j least : Int} (hi : least ≤ i) (hj : least ≤ j) :
    compare (signed s m (i - min i j).toNat) (signed t n (j - min i j).toNat) = compare (signed s m (i - least).toNat) (signed t n (j - least).toNat) := by
  have e1 : (i - least).toNat = (i - min i j).toNat + (min i j - least).toNat := by omega
  have e2 : (j - least).toNat = (j - min i j).toNat + (min i j - least).toNat := by omega
  rw [e1, e2, signed_scale, signed_scale, compare_scale]

theorem ford_nan {x y : Nat} (h : isNan x = true ∨ isNan y = true) : ford x y = none := by
  unfold ford Format.order isNan at *
  cases hx : FloatKind.f64.format.read x <;> cases hy : FloatKind.f64.format.read y <;> simp_all [Datum.isNaN, Datum.order]

theorem flt_iff {x y : Nat} (hx : isNan x = false) (hy : isNan y = false) : flt x y = true ↔ (fr1 x < fr1 y ∨ (fr1 x = fr1 y ∧ fr2 x < fr2 y)) := by
  have px := @read_place x
  have py := @read_place y
  unfold flt ford Format.order isNan fr1 fr2 at *
  cases hx' : FloatKind.f64.format.read x with
  | nan _ _ => rw [hx'] at hx; simp [Datum.isNaN] at hx
  | infinity s =>
    cases hy' : FloatKind.f64.format.read y with
    | nan _ _ => rw [hy'] at hy; simp [Datum.isNaN] at hy
    | infinity t => cases s <;> cases t <;> simp [Datum.order, rk1, rk2] <;> decide
    | number t n j => cases s <;> simp [Datum.order, rk1, rk2]
  | number s m i =>
    cases hy' : FloatKind.f64.format.read y with
    | nan _ _ => rw [hy'] at hy; simp [Datum.isNaN] at hy
    | infinity t => cases t <;> simp [Datum.order, rk1, rk2]
    | number t n j =>
      simp only [Datum.order, rk1, rk2]
      rw [compare_num (px hx') (py hy')]
      simp [Int.compare_eq_lt]

theorem feq_iff {x y : Nat} (hx : isNan x = false) (hy : isNan y = false) : feq x y = true ↔ (fr1 x = fr1 y ∧ fr2 x = fr2 y) := by
  have px := @read_place x
  have py := @read_place y
  unfold feq ford Format.order isNan fr1 fr2 at *
  cases hx' : FloatKind.f64.format.read x with
  | nan _ _ => rw [hx'] at hx; simp [Datum.isNaN] at hx
  | infinity s =>
    cases hy' : FloatKind.f64.format.read y with
    | nan _ _ => rw [hy'] at hy; simp [Datum.isNaN] at hy
    | infinity t => cases s <;> cases t <;> simp [Datum.order, rk1, rk2] <;> decide
    | number t n j => cases s <;> simp [Datum.order, rk1, rk2]
  | number s m i =>
    cases hy' : FloatKind.f64.format.read y with
    | nan _ _ => rw [hy'] at hy; simp [Datum.isNaN] at hy
    | infinity t => cases t <;> simp [Datum.order, rk1, rk2]
    | number t n j =>
      simp only [Datum.order, rk1, rk2]
      rw [compare_num (px hx') (py hy')]
      simp [Int.compare_eq_eq]

theorem fle_iff {x y : Nat} (hx : isNan x = false) (hy : isNan y = false) : fle x y = true ↔ (fr1 x < fr1 y ∨ (fr1 x = fr1 y ∧ fr2 x ≤ fr2 y)) := by
  have h1 := flt_iff hx hy
  have h2 := feq_iff hx hy
  have e : fle x y = (flt x y || feq x y) := rfl
  rw [e, Bool.or_eq_true, h1, h2]
  omega

/-- 'x != x' is Go's way to ask for a NaN. -/
theorem nan_of_ne {x : Nat} : feq x x = !isNan x := by
  cases h : isNan x with
  | true => unfold feq; rw [ford_nan (.inl h)]; rfl
  | false => rw [Bool.not_false]; exact (feq_iff h h).2 ⟨rfl, rfl⟩

end Go.Proofs.Qxb6601457a

import Derived.Test.Qxb6601457aPlain
import Derived.Laws.FloatArith
import Derived.KernelRfl
namespace Go.Proofs.Qxb6601457a
open Ieee

theorem read_zero : FloatKind.f64.format.read 0 = .number false 0 double.leastPlace := by kernel_rfl

theorem shiftLeft_eq_zero {m k : Nat} (h : m <<< k = 0) : m = 0 := by
  rw [Nat.shiftLeft_eq] at h
  rcases Nat.mul_eq_zero.1 h with h | h
  · exact h
  · exact absurd h (Nat.pos_iff_ne_zero.1 (Nat.two_pow_pos k))

theorem read_of_zero {x : Nat} (h : feq x 0 = true) : ∃ s e, FloatKind.f64.format.read x = .number s 0 e := by
  unfold feq ford Format.order at h
  rw [read_zero] at h
  cases hr : FloatKind.f64.format.read x with
  | nan s t => rw [hr] at h; simp [Datum.order] at h
  | infinity s => rw [hr] at h; cases s <;> simp [Datum.order] at h
  | number s m i =>
    rw [hr] at h
    simp only [Datum.order, signed, beq_iff_eq, Option.some.injEq, Int.compare_eq_eq] at h
    refine ⟨s, i, ?_⟩
    have : m <<< (i - min i double.leastPlace).toNat = 0 := by
      generalize m <<< (i - min i double.leastPlace).toNat = q at *
      cases s <;> simp only [Nat.zero_shiftLeft, if_true, Bool.false_eq_true, if_false] at h <;> omega
    rw [shiftLeft_eq_zero this]

theorem one_quo {x : Nat} (h : feq x 0 = true) : ∃ r, floatBits .quo .f64 4607182418800017408 x = some r ∧ flt r 0 = (FloatKind.f64.format.read x).neg := by
  obtain ⟨s, e, hr⟩ := read_of_zero h
  have h1 : FloatKind.f64.format.read 4607182418800017408 = .number false (2 ^ 52) (-52) := by kernel_rfl
  have hq : floatBits .quo .f64 4607182418800017408 x = some (FloatKind.f64.format.word s FloatKind.f64.format.infRung) := by
    unfold floatBits Format.div
    simp only [h1, hr, Datum.quotient]
    simp [Format.write]
  refine ⟨_, hq, ?_⟩
  rw [hr]
  cases s <;> kernel_rfl

end Go.Proofs.Qxb6601457a

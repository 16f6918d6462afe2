import Derived.WalkKit
import Derived.Laws.FloatArith
namespace Go.Proofs.Qxb6604053a

/-- The bits of a NaN. -/
def NaN (x : Nat) : Prop := ∃ s p, FloatKind.f64.format.read x = .nan s p
theorem nan_drawn (t : Nat) : NaN ((t % 2) * 2 ^ 63 + 0x7ff0000000000000 + 1 + (t / 2) % (2 ^ 52 - 1)) := by
  have hs : Ieee.double.signWeight = 9223372036854775808 := by decide
  have hb : Ieee.double.binade = 4503599627370496 := by decide
  have hi : Ieee.double.infRung = 9218868437227405312 := by decide
  unfold NaN
  show ∃ s p, Ieee.double.read _ = .nan s p
  unfold Ieee.Format.read
  simp only [hs, hb, hi]
  have hv : (t / 2) % (2 ^ 52 - 1) < 2 ^ 52 - 1 := Nat.mod_lt _ (by decide)
  generalize (t / 2) % (2 ^ 52 - 1) = v at *
  have hu : t % 2 = 0 ∨ t % 2 = 1 := by omega
  generalize t % 2 = u at *
  have e : (u * 2 ^ 63 + 9218868437227405312 + 1 + v) % 9223372036854775808 = 9218868437227405312 + 1 + v := by
    rcases hu with rfl | rfl <;> omega
  rw [e]
  have h1 : ¬ 9218868437227405312 + 1 + v < 4503599627370496 := by omega
  have h2 : ¬ 9218868437227405312 + 1 + v < 9218868437227405312 := by omega
  have h3 : ¬ 9218868437227405312 + 1 + v = 9218868437227405312 := by omega
  rw [if_neg h1, if_neg h2, if_neg h3]
  exact ⟨_, _, rfl⟩
theorem nan_add {x : Nat} (h : NaN x) (y : Nat) : FloatKind.f64.format.add x y = none := by
  obtain ⟨s, p, h⟩ := h
  unfold Ieee.Format.add
  rw [h]
  cases FloatKind.f64.format.read y <;> rfl
theorem nan_order {x : Nat} (h : NaN x) (y : Nat) : FloatKind.f64.format.order x y = none := by
  obtain ⟨s, p, h⟩ := h
  unfold Ieee.Format.order
  rw [h]
  cases FloatKind.f64.format.read y <;> rfl
theorem compare_self (x : Int) : compare x x = .eq := by simp
theorem compare_selfN (x : Nat) : compare x x = .eq := by simp
theorem order_self {x : Nat} (h : ¬ NaN x) : FloatKind.f64.format.order x x = some .eq := by
  unfold Ieee.Format.order
  cases e : FloatKind.f64.format.read x with
  | nan s p => exact absurd ⟨s, p, e⟩ h
  | infinity s => show some (compare s.toNat s.toNat) = _; rw [compare_selfN]
  | number s m i => show some (compare _ _) = _; rw [compare_self]
/-- 1 divided by a zero is an infinity. -/
theorem div_zero {x : Nat} (h : FloatKind.f64.format.order x 0 = some .eq) : ∃ z, FloatKind.f64.format.div 4607182418800017408 x = some z ∧ FloatKind.f64.format.order z z = some .eq := by
  have h1 : FloatKind.f64.format.read 4607182418800017408 = .number false 4503599627370496 (-52) := by decide +kernel
  have h0 : FloatKind.f64.format.read 0 = .number false 0 (-1074) := by decide +kernel
  unfold Ieee.Format.order at h
  rw [h0] at h
  unfold Ieee.Format.div
  rw [h1]
  cases e : FloatKind.f64.format.read x with
  | nan s p => rw [e] at h; cases h
  | infinity s => rw [e] at h; cases s <;> cases h
  | number s m i =>
    rw [e] at h
    have hm : m = 0 := by
      have h' : compare (Ieee.signed s m (i - min i (-1074)).toNat) (Ieee.signed false 0 ((-1074) - min i (-1074)).toNat) = .eq := Option.some.inj h
      have h2 := Std.LawfulEqCmp.eq_of_compare h'
      unfold Ieee.signed at h2
      rw [if_neg Bool.false_ne_true, Nat.zero_shiftLeft, Nat.shiftLeft_eq] at h2
      have hp : 0 < 2 ^ (i - min i (-1074)).toNat := Nat.two_pow_pos _
      rcases Nat.eq_zero_or_pos m with h3 | h3
      · exact h3
      · have h4 : 0 < m * 2 ^ (i - min i (-1074)).toNat := Nat.mul_pos h3 hp
        cases s
        · rw [if_neg Bool.false_ne_true] at h2; omega
        · rw [if_pos rfl] at h2; omega
    subst hm
    refine ⟨FloatKind.f64.format.write (.infinity (false ^^ s)), rfl, ?_⟩
    cases s <;> decide +kernel
end Go.Proofs.Qxb6604053a

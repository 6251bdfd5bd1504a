/-
  Seat b3582aF: what compareSameLen answers, in the plain order's words.
-/
import Derived.Test.YbulkbvduFmtD
import Derived.Test.YbulkbvduFmtE
namespace Go.Proofs.YbulkbvduFmt
open Go.RowKit

/-- a's bit at the lowest bit of d. -/
def lowT (m a d : Nat) : Nat := (a &&& d) &&& (2 ^ m - d)

theorem land_even (a b : Nat) : (2 * a) &&& (2 * b) = 2 * (a &&& b) := by
  apply Nat.eq_of_testBit_eq
  intro i
  cases i with
  | zero => simp
  | succ i =>
    rw [Nat.testBit_and]
    simp only [Nat.testBit_succ]
    simp [Nat.testBit_and]
theorem land_half (a d : Nat) : a &&& (2 * d) = 2 * ((a / 2) &&& d) := by
  apply Nat.eq_of_testBit_eq
  intro i
  cases i with
  | zero => simp
  | succ i =>
    rw [Nat.testBit_and]
    simp only [Nat.testBit_succ]
    simp [Nat.testBit_and]
theorem lowT_even (m a d : Nat) (hd : d ≤ 2 ^ m) : lowT (m + 1) a (2 * d) = 2 * lowT m (a / 2) d := by
  unfold lowT
  rw [land_half, show 2 ^ (m + 1) - 2 * d = 2 * (2 ^ m - d) by rw [Nat.pow_succ]; omega, land_even]

/-- At an odd d the two complements meet in the lowest bit alone. -/
theorem odd_meet : ∀ (m d : Nat), d % 2 = 1 → d < 2 ^ (m + 1) → d &&& (2 ^ (m + 1) - d) = 1
  | 0, d, h1, h2 => by
    have : d = 1 := by omega
    subst this; rfl
  | m + 1, d, h1, h2 => by
    apply Nat.eq_of_testBit_eq
    intro i
    cases i with
    | zero =>
      have : (2 ^ (m + 1 + 1) - d) % 2 = 1 := by rw [Nat.pow_succ]; rw [Nat.pow_succ] at h2; omega
      simp [Nat.testBit_zero, h1, this]
    | succ i =>
      rw [Nat.testBit_and]
      simp only [Nat.testBit_succ]
      have e1 : (2 ^ (m + 1 + 1) - d) / 2 = 2 ^ (m + 1) - 1 - d / 2 := by rw [Nat.pow_succ]; rw [Nat.pow_succ] at h2; omega
      rw [e1]
      have hlt : d / 2 < 2 ^ (m + 1) := by rw [Nat.pow_succ] at h2; omega
      rw [show 2 ^ (m + 1) - 1 - d / 2 = 2 ^ (m + 1) - (d / 2 + 1) by omega, Nat.testBit_two_pow_sub_succ hlt]
      cases (d / 2).testBit i <;> simp

theorem lowT_odd (m a d : Nat) (h1 : d % 2 = 1) (h2 : d < 2 ^ (m + 1)) : lowT (m + 1) a d = a % 2 := by
  unfold lowT
  rw [Nat.and_assoc, odd_meet m d h1 h2, Nat.and_one_is_mod]

/-- The test of compareSameLen, in the plain order's words. -/
theorem lowT_low : ∀ (k m a b : Nat), k ≤ m → a < 2 ^ k → b < 2 ^ k → (lowT (m + 1) a (a ^^^ b) ≠ 0 ↔ low k a b = true)
  | 0, m, a, b, _, ha, hb => by
    have e1 : a = 0 := by omega
    have e2 : b = 0 := by omega
    subst e1; subst e2
    simp [lowT, low]
  | k + 1, m, a, b, hk, ha, hb => by
    obtain ⟨m, rfl⟩ : ∃ m', m = m' + 1 := ⟨m - 1, by omega⟩
    have hx : (a ^^^ b) % 2 = (a % 2 + b % 2) % 2 := by
      have h0 := Nat.testBit_xor a b 0
      simp only [Nat.testBit_zero] at h0
      have ha2 : a % 2 = 0 ∨ a % 2 = 1 := by omega
      have hb2 : b % 2 = 0 ∨ b % 2 = 1 := by omega
      have hc2 : (a ^^^ b) % 2 = 0 ∨ (a ^^^ b) % 2 = 1 := by omega
      rcases ha2 with e1 | e1 <;> rcases hb2 with e2 | e2 <;> rcases hc2 with e3 | e3 <;> simp [e1, e2, e3] at h0 ⊢
    have hxd : (a ^^^ b) / 2 = (a / 2) ^^^ (b / 2) := by
      apply Nat.eq_of_testBit_eq
      intro i
      rw [← Nat.testBit_succ, Nat.testBit_xor, Nat.testBit_xor, Nat.testBit_succ, Nat.testBit_succ]
    have hlt : a ^^^ b < 2 ^ (k + 1) := Nat.xor_lt_two_pow ha hb
    have hpow : 2 ^ (k + 1) ≤ 2 ^ (m + 1 + 1) := Nat.pow_le_pow_right (by omega) (by omega)
    rw [Nat.pow_succ] at ha hb
    unfold low
    by_cases e : a % 2 = b % 2
    · rw [if_pos e]
      have hev : a ^^^ b = 2 * ((a / 2) ^^^ (b / 2)) := by rw [← hxd]; omega
      rw [hev, lowT_even (m + 1) a ((a / 2) ^^^ (b / 2)) (by rw [← hxd]; rw [Nat.pow_succ] at hpow; omega)]
      have ih := lowT_low k m (a / 2) (b / 2) (by omega) (by omega) (by omega)
      rw [← ih]
      omega
    · rw [if_neg e, lowT_odd (m + 1) a (a ^^^ b) (by omega) (by omega)]
      simp

end Go.Proofs.YbulkbvduFmt

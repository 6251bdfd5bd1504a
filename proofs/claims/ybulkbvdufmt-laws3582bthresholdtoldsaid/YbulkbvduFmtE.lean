/-
  Seat b3582aF: the plain order of the masks.
-/
namespace Go.Proofs.YbulkbvduFmt

/-- The lowest place where the two differ is a's. -/
def low : Nat → Nat → Nat → Bool
  | 0, _, _ => false
  | k + 1, a, b => if a % 2 = b % 2 then low k (a / 2) (b / 2) else a % 2 == 1

theorem low_self : ∀ k a, low k a a = false
  | 0, _ => rfl
  | k + 1, a => by simp [low, low_self k]
theorem low_trans : ∀ k a b c, low k a b = true → low k b c = true → low k a c = true
  | 0, _, _, _ => by simp [low]
  | k + 1, a, b, c => by
    intro h1 h2
    unfold low at h1 h2 ⊢
    by_cases e1 : a % 2 = b % 2
    · rw [if_pos e1] at h1
      by_cases e2 : b % 2 = c % 2
      · rw [if_pos e2] at h2
        rw [if_pos (by omega)]
        exact low_trans k _ _ _ h1 h2
      · rw [if_neg e2] at h2
        rw [if_neg (by omega), e1]
        exact h2
    · rw [if_neg e1] at h1
      by_cases e2 : b % 2 = c % 2
      · rw [if_neg (by omega)]
        exact h1
      · rw [if_neg e2] at h2
        simp at h1 h2
        omega
/-- Two masks of k bits that are not the same are told apart. -/
theorem low_total : ∀ k a b, a < 2 ^ k → b < 2 ^ k → low k a b = false → low k b a = false → a = b
  | 0, a, b => by intro h1 h2 _ _; omega
  | k + 1, a, b => by
    intro h1 h2 h3 h4
    rw [Nat.pow_succ] at h1 h2
    unfold low at h3 h4
    by_cases e : a % 2 = b % 2
    · rw [if_pos e] at h3
      rw [if_pos e.symm] at h4
      have := low_total k (a / 2) (b / 2) (by omega) (by omega) h3 h4
      omega
    · rw [if_neg e] at h3
      rw [if_neg (fun h => e h.symm)] at h4
      simp at h3 h4
      omega

end Go.Proofs.YbulkbvduFmt

/-
  Seat b3582aF: plain: the masks of ascending positions, and the step from choice to choice.
-/
import Derived.Test.YbulkbvduFmtA
namespace Go.Proofs.YbulkbvduFmt
/-- The mask of the first k positions of f. -/
def mask (f : Nat → Nat) : Nat → Nat
  | 0 => 0
  | k + 1 => mask f k + 2 ^ f k
/-- The same read from the other end: it falls from choice to choice. -/
def rev (f : Nat → Nat) : Nat → Nat
  | 0 => 0
  | k + 1 => rev f k + 2 ^ (11 - f k)
/-- Ascending, below n. -/
def Asc (n k : Nat) (f : Nat → Nat) : Prop := (∀ j, j + 1 < k → f j < f (j + 1)) ∧ ∀ j, j < k → f j ≤ n - k + j

theorem pop_zero : ∀ m, pop m 0 = 0
  | 0 => rfl
  | m + 1 => by simp [pop, pop_zero m]
theorem pop_add : ∀ (m j x : Nat), x < 2 ^ j → j < m → pop m (x + 2 ^ j) = pop m x + 1
  | 0, _, _, _, h => by omega
  | m + 1, 0, x, h, _ => by
    obtain rfl : x = 0 := by simpa using h
    simp [pop, pop_zero]
  | m + 1, j + 1, x, h, hj => by
    have ih := pop_add m j (x / 2) (by rw [Nat.pow_succ] at h; omega) (by omega)
    have e1 : (x + 2 ^ (j + 1)) % 2 = x % 2 := by rw [Nat.pow_succ]; omega
    have e2 : (x + 2 ^ (j + 1)) / 2 = x / 2 + 2 ^ j := by rw [Nat.pow_succ]; omega
    simp only [pop, e1, e2, ih]
    omega
theorem mask_lt (f : Nat → Nat) : ∀ k b, (∀ j, j + 1 < k → f j < f (j + 1)) → (∀ j, j < k → f j < b) → mask f k < 2 ^ b
  | 0, b, _, _ => by simp [mask, Nat.two_pow_pos]
  | k + 1, b, h, hb => by
    have ih := mask_lt f k (f k) (fun j hj => h j (by omega)) (fun j hj => by
      have hm : ∀ d i, i + d + 1 ≤ k → f i < f (i + d + 1) := fun d => by
        induction d with
        | zero => intro i hi; exact h i (by omega)
        | succ d ihd => intro i hi; exact Nat.lt_trans (ihd i (by omega)) (h (i + d + 1) (by omega))
      have := hm (k - j - 1) j (by omega)
      rwa [show j + (k - j - 1) + 1 = k by omega] at this)
    have h2 : 2 ^ (f k + 1) ≤ 2 ^ b := Nat.pow_le_pow_right (by omega) (hb k (by omega))
    rw [Nat.pow_succ] at h2
    simp only [mask]
    omega
theorem mask_step (f : Nat → Nat) (k : Nat) (h : ∀ j, j + 1 < k + 1 → f j < f (j + 1)) : mask f k < 2 ^ f k := by
  refine mask_lt f k (f k) (fun j hj => h j (by omega)) (fun j hj => ?_)
  have hm : ∀ d i, i + d + 1 ≤ k → f i < f (i + d + 1) := fun d => by
    induction d with
    | zero => intro i hi; exact h i (by omega)
    | succ d ihd => intro i hi; exact Nat.lt_trans (ihd i (by omega)) (h (i + d + 1) (by omega))
  have := hm (k - j - 1) j (by omega)
  rwa [show j + (k - j - 1) + 1 = k by omega] at this
theorem mask_pop (f : Nat → Nat) : ∀ k, (∀ j, j + 1 < k → f j < f (j + 1)) → (∀ j, j < k → f j < 12) → pop 12 (mask f k) = k
  | 0, _, _ => by simp [mask, pop_zero]
  | k + 1, h, hb => by
    have ih := mask_pop f k (fun j hj => h j (by omega)) (fun j hj => hb j (by omega))
    simp only [mask]
    rw [pop_add 12 (f k) (mask f k) (mask_step f k h) (hb k (by omega)), ih]
theorem mask_pos (f : Nat → Nat) (k : Nat) (h : 0 < k) : 0 < mask f k := by
  cases k with
  | zero => omega
  | succ k => simp only [mask]; have := Nat.two_pow_pos (f k); omega
theorem mask_id (f : Nat → Nat) : ∀ k, (∀ j, j < k → f j = j) → mask f k + 1 = 2 ^ k
  | 0, _ => rfl
  | k + 1, h => by
    have ih := mask_id f k (fun j hj => h j (by omega))
    simp only [mask, h k (by omega)]
    rw [Nat.pow_succ]; omega
theorem mask_congr (f g : Nat → Nat) : ∀ k, (∀ j, j < k → f j = g j) → mask f k = mask g k
  | 0, _ => rfl
  | k + 1, h => by simp only [mask, h k (by omega), mask_congr f g k (fun j hj => h j (by omega))]
theorem mask_or (f : Nat → Nat) (k : Nat) (h : ∀ j, j + 1 < k + 1 → f j < f (j + 1)) : mask f k ||| 2 ^ f k = mask f (k + 1) := by
  have := Nat.two_pow_add_eq_or_of_lt (mask_step f k h) 1
  rw [Nat.mul_one] at this
  simp only [mask]
  rw [Nat.or_comm, ← this, Nat.add_comm]

theorem rev_congr (f g : Nat → Nat) : ∀ k, (∀ j, j < k → f j = g j) → rev f k = rev g k
  | 0, _ => rfl
  | k + 1, h => by simp only [rev, h k (by omega), rev_congr f g k (fun j hj => h j (by omega))]
theorem rev_mono (f : Nat → Nat) (i : Nat) : ∀ d, rev f i ≤ rev f (i + d)
  | 0 => Nat.le_refl _
  | d + 1 => by
    have := rev_mono f i d
    exact Nat.le_trans this (Nat.le_add_right _ _)
theorem rev_run (f : Nat → Nat) (i c : Nat) : ∀ s, (∀ t, t < s → f (i + t) = c + 1 + t) → c + s ≤ 11 → rev f (i + s) + 2 ^ (11 - c - s) ≤ rev f i + 2 ^ (11 - c)
  | 0, _, _ => by simp
  | s + 1, h, hc => by
    have ih := rev_run f i c s (fun t ht => h t (by omega)) (by omega)
    have e : 11 - c - s = (11 - c - (s + 1)) + 1 := by omega
    rw [e, Nat.pow_succ] at ih
    have e2 : 11 - f (i + s) = 11 - c - (s + 1) := by rw [h s (by omega)]; omega
    show rev f (i + s) + 2 ^ (11 - f (i + s)) + 2 ^ (11 - c - (s + 1)) ≤ _
    rw [e2]
    omega
/-- The step of the choices: the i-th moves on, those after it stand right behind. -/
def adv (f : Nat → Nat) (i : Nat) (j : Nat) : Nat := if j < i then f j else f i + 1 + (j - i)
theorem adv_rev (f : Nat → Nat) (i k : Nat) (hi : i < k) (hb : f i + (k - i) ≤ 11) : rev (adv f i) k < rev f k := by
  have h1 := rev_run (adv f i) i (f i) (k - i) (fun t _ => by simp only [adv]; rw [if_neg (by omega)]; omega) hb
  rw [show i + (k - i) = k by omega] at h1
  have h2 := rev_congr (adv f i) f i (fun j hj => by simp [adv, hj])
  have h3 := rev_mono f (i + 1) (k - (i + 1))
  rw [show i + 1 + (k - (i + 1)) = k by omega] at h3
  simp only [rev] at h3
  have := Nat.two_pow_pos (11 - f i - (k - i))
  omega
theorem adv_asc (n f i k) (h : Asc n k f) (hlt : f i < n - k + i) : Asc n k (adv f i) := by
  refine ⟨fun j hj => ?_, fun j hj => ?_⟩
  · unfold adv
    by_cases h1 : j + 1 < i
    · rw [if_pos (by omega), if_pos h1]; exact h.1 j hj
    · by_cases h2 : j < i
      · rw [if_pos h2, if_neg h1, show j + 1 - i = 0 by omega]
        have := h.1 j hj
        rw [show j + 1 = i by omega] at this
        omega
      · rw [if_neg h2, if_neg h1]; omega
  · unfold adv
    by_cases h1 : j < i
    · rw [if_pos h1]; exact h.2 j hj
    · rw [if_neg h1]; omega
theorem rev_bound (f : Nat → Nat) : ∀ k, (∀ j, j < k → f j = j) → k ≤ 12 → rev f k + 2 ^ (12 - k) ≤ 2 ^ 12
  | 0, _, _ => by simp [rev]
  | k + 1, h, hk => by
    have ih := rev_bound f k (fun j hj => h j (by omega)) (by omega)
    have e : 12 - k = (12 - (k + 1)) + 1 := by omega
    rw [e, Nat.pow_succ] at ih
    have e2 : 11 - f k = 12 - (k + 1) := by rw [h k (by omega)]; omega
    simp only [rev, e2]
    omega
theorem rev_pos (f : Nat → Nat) (k : Nat) (h : 0 < k) : 0 < rev f k := by
  cases k with
  | zero => omega
  | succ k => simp only [rev]; have := Nat.two_pow_pos (11 - f k); omega
end Go.Proofs.YbulkbvduFmt

/-
  Seat b3582aF: Set.Compare's answer is a strict weak order on the masks.
-/
import Derived.Test.YbulkbvduFmtF
namespace Go.Proofs.YbulkbvduFmt
open Go.RowKit

theorem cmpS_low (a b : Nat) (ha : a < 4096) (hb : b < 4096) : cmpS (a : Int) (b : Int) = if a = b then 0 else if low 12 a b = true then -1 else 1 := by
  have hx : dW (a : Int) (b : Int) = ((a ^^^ b : Nat) : Int) := u64_xor_nat a b (by omega) (by omega)
  have hlt : a ^^^ b < 2 ^ 12 := Nat.xor_lt_two_pow (n := 12) (by omega) (by omega)
  unfold cmpS
  rw [hx]
  by_cases e : a = b
  · subst e; simp
  · have hne : a ^^^ b ≠ 0 := fun h => e (by
      have := xor_zero (x := (a : Int)) (y := (b : Int)) (by omega) (by omega) (by omega) (by omega) (by rw [hx, h]; rfl)
      omega)
    rw [if_neg (by omega), if_neg e]
    have hw : IntKind.u64.wrap (-((a ^^^ b : Nat) : Int)) = ((2 ^ 64 - (a ^^^ b) : Nat) : Int) := by
      simp [IntKind.wrap, IntKind.bits, IntKind.signed]; omega
    have hand : a &&& (a ^^^ b) < 2 ^ 64 := Nat.lt_of_le_of_lt Nat.and_le_left (by omega)
    rw [hw, u64_and_nat a (a ^^^ b) (by omega) (by omega), u64_and_nat (a &&& (a ^^^ b)) (2 ^ 64 - (a ^^^ b)) (by omega) (by omega)]
    have hl := lowT_low 12 63 a b (by omega) (by omega) (by omega)
    unfold lowT at hl
    by_cases h : low 12 a b = true
    · rw [if_pos h, if_neg (by have := hl.2 h; simp only [Nat.reduceAdd] at this; omega)]
    · have : (a &&& (a ^^^ b)) &&& (2 ^ 64 - (a ^^^ b)) = 0 := by
        have := mt hl.1 h
        simpa using this
      rw [this, if_pos (by rfl), if_neg h]

/-- Before: fewer members; of as many, the lowest place where they differ is the first's. -/
def before (a b : Nat) : Prop := pop 12 a < pop 12 b ∨ (pop 12 a = pop 12 b ∧ low 12 a b = true)
theorem cmpSet_neg (a b : Nat) (ha : a < 4096) (hb : b < 4096) : cmpSet (a : Int) (b : Int) < 0 ↔ before a b := by
  unfold cmpSet before
  simp only [Int.toNat_natCast]
  rw [cmpS_low a b ha hb]
  unfold cmpI
  by_cases h1 : pop 12 a < pop 12 b
  · rw [if_pos (show ((pop 12 a : Nat) : Int) < (pop 12 b : Nat) by omega)]
    simp [h1]
  · by_cases h2 : pop 12 b < pop 12 a
    · rw [if_neg (show ¬ ((pop 12 a : Nat) : Int) < (pop 12 b : Nat) by omega), if_pos (show ((pop 12 b : Nat) : Int) < (pop 12 a : Nat) by omega)]
      simp [h1]; omega
    · rw [if_neg (show ¬ ((pop 12 a : Nat) : Int) < (pop 12 b : Nat) by omega), if_neg (show ¬ ((pop 12 b : Nat) : Int) < (pop 12 a : Nat) by omega)]
      have e : pop 12 a = pop 12 b := by omega
      simp only [if_true, e, true_and]
      by_cases hab : a = b
      · subst hab; simp [low_self]
      · rw [if_neg hab]
        by_cases hl : low 12 a b = true <;> simp [hl]
theorem before_irrefl (a : Nat) : ¬ before a a := by
  unfold before; simp [low_self]
theorem before_trans {a b c : Nat} (h1 : before a b) (h2 : before b c) : before a c := by
  unfold before at *
  rcases h1 with h1 | ⟨h1, l1⟩ <;> rcases h2 with h2 | ⟨h2, l2⟩
  · left; omega
  · left; omega
  · left; omega
  · right; exact ⟨by omega, low_trans 12 a b c l1 l2⟩
theorem before_total {a b : Nat} (ha : a < 4096) (hb : b < 4096) (h1 : ¬ before a b) (h2 : ¬ before b a) : a = b := by
  unfold before at *
  have e : pop 12 a = pop 12 b := by omega
  refine low_total 12 a b (by omega) (by omega) ?_ ?_
  · cases h : low 12 a b
    · rfl
    · exact absurd (.inr ⟨e, h⟩) h1
  · cases h : low 12 b a
    · rfl
    · exact absurd (.inr ⟨e.symm, h⟩) h2

end Go.Proofs.YbulkbvduFmt

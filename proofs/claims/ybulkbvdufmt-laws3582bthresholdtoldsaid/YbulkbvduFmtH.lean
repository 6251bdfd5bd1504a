/-
  Seat b3582aF: maxSets, countCombinations.
-/
import Derived.Test.YbulkbvduFmtA
namespace Go.Proofs.YbulkbvduFmt
open Go.RowKit

set_option maxHeartbeats 1000000 in
theorem maxSets_any (n : Nat) (h1 : 1 ≤ n) (h2 : n ≤ 12) (w : World) : Calls Ybaf.prog 9 #[.int .i64 n] w fun e w' => e = .returned (.int .i64 ((10000000 / n : Nat) : Int)) ∧ w' = w := by
  go_enter Ybaf.func9, Ybaf.ntmps9
  go_wp2
  go_ret
  exact ⟨rfl, rfl⟩

/-- The count, after i steps, of r + i over i. -/
def cc (r : Nat) : Nat → Nat
  | 0 => 1
  | i + 1 => cc r i * (r + (i + 1)) / (i + 1)
theorem cc_le : ∀ k : Fin 7, ∀ r : Fin 13, ∀ i : Fin 7, i.val ≤ k.val → r.val + k.val ≤ 12 → cc r.val i.val ≤ 924 := by decide +kernel

set_option maxHeartbeats 1000000 in
/-- n choose k, k at most half of n. -/
theorem count_small (n k lim : Nat) (hk : 2 * k ≤ n) (hn : n ≤ 12) (hlim : 924 ≤ lim) (hl2 : lim ≤ 10000000) (j : Nat) (hj : (j = k) ∨ (j = n - k)) (w : World) :
    Calls Ybaf.prog 10 #[.int .i64 n, .int .i64 j, .int .i64 lim] w fun e w' => (∃ c : Nat, c ≤ 924 ∧ e = .returned (.int .i64 (c : Int))) ∧ w' = w := by
  go_enter Ybaf.func10, Ybaf.ntmps10
  go_wp2_with fail
  case' inl =>
    have e : (n : Int) - (j : Int) = (k : Int) := by omega
    rw [e]
  case' inr =>
    have e : (j : Int) = (k : Int) := by omega
    rw [e]
  all_goals
    obtain ⟨r, hr⟩ : ∃ r : Nat, r + k = n := ⟨n - k, by omega⟩
    go_loop [7, 8] (fun c7 c8 => ∃ i : Nat, i ≤ k ∧ c8 = .int .i64 ((i + 1 : Nat) : Int) ∧ c7 = .int .i64 ((cc r i : Nat) : Int)) (fun _ c8 => k + 1 - (intOf c8).toNat)
    case atStart => exact ⟨0, Nat.zero_le _, rfl, rfl⟩
    case round =>
      obtain ⟨i, hi, rfl, rfl⟩ := hrel
      have hc := cc_le ⟨k, by omega⟩ ⟨r, by omega⟩ ⟨i, by omega⟩ hi (by simp; omega)
      simp only at hc
      by_cases hlt : i + 1 ≤ k
      · have h1 : ((i : Int) + 1) ≤ k := by omega
        have h2 : ((cc r i : Nat) : Int) ≤ lim := by omega
        have hm : ((cc r i : Nat) : Int) * ((n : Int) - k + ((i : Int) + 1)) = ((cc r i * (r + (i + 1)) : Nat) : Int) := by rw [show (n : Int) - k + ((i : Int) + 1) = ((r + (i + 1) : Nat) : Int) by omega]; simp
        have hb : cc r i * (r + (i + 1)) ≤ 924 * 13 := Nat.mul_le_mul hc (by omega)
        obtain ⟨q, hq⟩ : ∃ q : Nat, q = cc r i * (r + (i + 1)) := ⟨_, rfl⟩
        rw [← hq] at hm hb
        obtain ⟨z, hz⟩ : ∃ z : Nat, z = q / (i + 1) := ⟨_, rfl⟩
        have HQ : Hid (cc r (i + 1) = z) := by show _ = _; rw [hz, hq]; rfl
        have hz2 : z ≤ 12012 := by rw [hz]; exact Nat.le_trans (Nat.div_le_self _ _) hb
        have hz1 : (q : Int) / ((i : Int) + 1) = (z : Int) := by rw [hz]; simp
        clear hq hz
        go_wp2_with fail
        go_round
        case rel => exact ⟨i + 1, hlt, by go_num, by rw [HQ.out]⟩
        case measure => simp [intOf]; omega
      · have h1 : decide (((i : Int) + 1) ≤ k) = false := by simp; omega
        go_wp2_with fail
        go_ret
        exact ⟨⟨cc r i, hc, rfl⟩, rfl⟩

end Go.Proofs.YbulkbvduFmt

/-
  Seat b3582aF: the walk of zzs3582borders.
-/
import Derived.Test.YbulkbvduFmtAH
namespace Go.Proofs.YbulkbvduFmt
open Go.RowKit Go.Shelf

set_option maxHeartbeats 4000000 in
set_option maxRecDepth 100000 in
theorem borders_true (ob n : Nat) (hn : n ≤ 512) (w : World) (h : Ord w ob n n) :
    Calls Ybaf.prog 6 #[.slice (some ⟨ob, 0, none⟩) n n, .int .i64 n] w fun e w' => e = .returned (.bool true) ∧ w' = w := by
  have hb0 : ((n : Int) != (n : Int)) = false := by simp
  have HO : Hid (Ord w ob n n) := h
  clear h
  go_enter Ybaf.func6, Ybaf.ntmps6
  go_wp2_with fail
  go_loop [5] (fun c => ∃ i : Nat, i ≤ n ∧ c = .int .i64 i) (fun c => n - (intOf c).toNat)
  case atStart => exact ⟨0, Nat.zero_le _, rfl⟩
  case round =>
    obtain ⟨i, hin, rfl⟩ := hrel
    by_cases hlt : i < n
    · obtain ⟨cs, hcs, hsz, hr⟩ := HO.out
      obtain ⟨g, cap, cur, h1, h2, h3, h4⟩ := hr i hlt
      have hc1 : w.cell? ⟨ob, i, none⟩ = some (.slice (some ⟨g, 0, none⟩) (n - 1) cap) := (cell_of_row w _ i _ 31 _ hcs).trans h1
      have hb1 : (((n - 1 : Nat) : Int) != (n : Int) - 1) = false := by simp; omega
      have HK : Hid (∀ k, k < n - 1 → w.cell? ⟨g, k, none⟩ = some (.int .i64 ((want i k : Nat) : Int))) := fun k hk => (cell_of_row w _ k _ 3 _ h3).trans (h4 k hk)
      clear hcs hsz hr h1 h2 h3 h4
      go_wp2_with fail
      go_loop [7] (fun c => ∃ k : Nat, k ≤ n - 1 ∧ c = .int .i64 k) (fun c => n - (intOf c).toNat)
      case atStart => exact ⟨0, Nat.zero_le _, rfl⟩
      case round =>
        obtain ⟨k, hkn, rfl⟩ := hrel
        by_cases hk : k < n - 1
        · obtain ⟨x, hx⟩ : ∃ x : Int, x = ((want i k : Nat) : Int) := ⟨_, rfl⟩
          have hck : w.cell? ⟨g, k, none⟩ = some (.int .i64 x) := by rw [hx]; exact HK.out k hk
          have hk1 : (k : Int) < (n : Int) - 1 := by omega
          have hk2 : (k : Int) < ((n - 1 : Nat) : Int) := by omega
          by_cases hki : k < i
          · have hw : (x != (k : Int)) = false := by rw [hx]; simp [want, hki]
            have hki' : ¬ (i : Int) ≤ (k : Int) := by omega
            clear hx
            go_wp2_with fail
            go_round
            case rel => exact ⟨k + 1, by omega, by go_num⟩
            case measure => simp [intOf]; omega
          · have hw : (x != (k : Int) + 1) = false := by rw [hx]; simp [want, hki]
            have hki' : (i : Int) ≤ (k : Int) := by omega
            clear hx
            go_wp2_with fail
            go_round
            case rel => exact ⟨k + 1, by omega, by go_num⟩
            case measure => simp [intOf]; omega
        · have hk1 : ¬ (k : Int) < (n : Int) - 1 := by omega
          go_wp2_with fail
          go_round
          case rel => exact ⟨i + 1, by omega, by go_num⟩
          case measure => simp [intOf]; omega
    · go_wp2_with fail
      go_ret
      exact ⟨rfl, rfl⟩

end Go.Proofs.YbulkbvduFmt

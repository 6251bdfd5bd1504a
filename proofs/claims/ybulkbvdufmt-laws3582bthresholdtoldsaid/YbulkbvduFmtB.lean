/-
  Seat b3582aF: Set.word, Set.Len, cmp.Compare, Set.compareSameLen, Set.Compare.
-/
import Derived.Test.YbulkbvduFmtA
namespace Go.Proofs.YbulkbvduFmt
open Go.RowKit

abbrev setV (p : Option Addr) (len cap : Nat) : Value := .agg #[.slice p len cap]
/-- The set whose members are the bits of x, below 12. -/
def Wd (w : World) (p : Option Addr) (len : Nat) (x : Int) : Prop :=
  (len = 0 ∧ x = 0) ∨ (len = 1 ∧ 0 < x ∧ x < 4096 ∧ ∃ b off, p = some ⟨b, off, none⟩ ∧ w.cell? ⟨b, off, none⟩ = some (.int .u64 x))
theorem Wd.later {w w' : World} {p : Option Addr} {len : Nat} {x : Int} (h : Wd w p len x) (hb : Below w.heap.size w w') : Wd w' p len x := by
  rcases h with h | ⟨h1, h2, h3, b, off, hp, hc⟩
  · exact .inl h
  · exact .inr ⟨h1, h2, h3, b, off, hp, cell_later hb hc⟩
theorem Wd.bounds {w : World} {p : Option Addr} {len : Nat} {x : Int} (h : Wd w p len x) : 0 ≤ x ∧ x < 4096 ∧ len ≤ 1 := by
  rcases h with ⟨h1, h2⟩ | ⟨h1, h2, h3, _⟩ <;> omega

theorem lt_of_cell {w : World} {b o : Nat} {v : Value} (h : w.cell? ⟨b, o, none⟩ = some v) : b < w.heap.size := by
  simp only [World.cell?] at h
  split at h
  · rename_i hh; exact (Array.getElem?_eq_some_iff.1 hh).1
  · cases h

set_option maxHeartbeats 1000000 in
theorem word_any (p : Option Addr) (len cap : Nat) (x : Int) (w : World) (h : Wd w p len x) :
    Calls Ybaf.prog 41 #[setV p len cap, .int .i64 0] w fun e w' => e = .returned (.int .u64 x) ∧ Below w.heap.size w w' ∧ w.drawn ≤ w'.drawn := by
  rcases h with ⟨rfl, rfl⟩ | ⟨rfl, h1, h2, b, off, rfl, hc⟩
  · go_enter Ybaf.func41, Ybaf.ntmps41
    go_wp2
    go_ret
    exact ⟨rfl, (Below.refl _ w).alloc (Nat.le_refl _) _, Nat.le_refl _⟩
  · have hb := lt_of_cell hc
    go_enter Ybaf.func41, Ybaf.ntmps41
    go_wp2
    go_ret
    exact ⟨rfl, (Below.refl _ w).alloc (Nat.le_refl _) _, Nat.le_refl _⟩

set_option maxHeartbeats 1000000 in
theorem isNaN_any (x : Int) (w : World) : Calls Ybaf.prog 53 #[.int .i64 x] w fun e w' => e = .returned (.bool false) ∧ w' = w := by
  go_enter Ybaf.func53, Ybaf.ntmps53
  go_wp2
  go_ret
  exact ⟨by simp, rfl⟩

def cmpI (x y : Int) : Int := if x < y then -1 else if y < x then 1 else 0
set_option maxHeartbeats 1000000 in
theorem compare_any (x y : Int) (w : World) : Calls Ybaf.prog 33 #[.int .i64 x, .int .i64 y] w fun e w' => e = .returned (.int .i64 (cmpI x y)) ∧ w' = w := by
  by_cases h : x < y
  · have HC : Hid (cmpI x y = -1) := by show _ = _; simp [cmpI, h]
    go_enter Ybaf.func33, Ybaf.ntmps33
    go_wp2_with (go_at_call 53; refine (isNaN_any _ _).mono ?_; rintro r w' ⟨rfl, rfl⟩)
    go_ret
    exact ⟨by rw [HC.out]; rfl, rfl⟩
  · by_cases h' : y < x
    · have HC : Hid (cmpI x y = 1) := by show _ = _; simp [cmpI, h, h']
      go_enter Ybaf.func33, Ybaf.ntmps33
      go_wp2_with (go_at_call 53; refine (isNaN_any _ _).mono ?_; rintro r w' ⟨rfl, rfl⟩)
      go_ret
      exact ⟨by rw [HC.out]; rfl, rfl⟩
    · have HC : Hid (cmpI x y = 0) := by show _ = _; simp [cmpI, h, h']
      go_enter Ybaf.func33, Ybaf.ntmps33
      go_wp2_with (go_at_call 53; refine (isNaN_any _ _).mono ?_; rintro r w' ⟨rfl, rfl⟩)
      go_ret
      exact ⟨by rw [HC.out]; rfl, rfl⟩

set_option maxHeartbeats 1000000 in
theorem len_any (p : Option Addr) (len cap : Nat) (x : Int) (w : World) (h : Wd w p len x) :
    Calls Ybaf.prog 26 #[setV p len cap] w fun e w' => e = .returned (.int .i64 (pop 12 x.toNat : Nat)) ∧ Below w.heap.size w w' ∧ w.drawn ≤ w'.drawn := by
  rcases h with ⟨rfl, rfl⟩ | ⟨rfl, h1, h2, b, off, rfl, hc⟩
  · go_enter Ybaf.func26, Ybaf.ntmps26
    go_wp2
    go_loopw [3, 9] (fun c3 c9 wr => c3 = .int .i64 0 ∧ c9 = .int .i64 0 ∧ wr = w.alloc (.cells #[.slice p 0 cap] 51)) (fun _ _ _ => 0)
    case atStart => exact ⟨rfl, rfl, rfl⟩
    case round =>
      obtain ⟨rfl, rfl, rfl⟩ := hrel
      go_wp2
      go_ret
      exact ⟨rfl, (Below.refl _ w).alloc (Nat.le_refl _) _, Nat.le_refl _⟩
  · have hb := lt_of_cell hc
    have HO : Hid _ := fun (W : World) => ones_any x ⟨by omega, h2⟩ W
    have hpb : ((pop 12 x.toNat : Nat) : Int) ≤ 12 := by
      have : ∀ k y, pop k y ≤ k := by
        intro k
        induction k with
        | zero => intro y; simp [pop]
        | succ k ih => intro y; have := ih (y / 2); simp only [pop]; omega
      have := this 12 x.toNat
      omega
    obtain ⟨q, hq⟩ : ∃ q : Nat, q = pop 12 x.toNat := ⟨_, rfl⟩
    rw [← hq] at HO hpb ⊢
    clear hq
    go_enter Ybaf.func26, Ybaf.ntmps26
    go_wp2
    go_loopw [3, 9] (fun c3 c9 wr => wr = w.alloc (.cells #[.slice (some ⟨b, off, none⟩) 1 cap] 51) ∧ ((c3 = .int .i64 0 ∧ c9 = .int .i64 0) ∨ (c3 = .int .i64 q ∧ c9 = .int .i64 1))) (fun _ c9 _ => 1 - (intOf c9).toNat)
    case atStart => exact ⟨rfl, .inl ⟨rfl, rfl⟩⟩
    case round =>
      obtain ⟨rfl, ⟨rfl, rfl⟩ | ⟨rfl, rfl⟩⟩ := hrel
      · go_wp2_with (go_at_call 37; refine (HO.out _).mono ?_; rintro r w' ⟨rfl, rfl⟩)
        go_roundw
        case rel => exact ⟨by first | rfl | trivial, .inr ⟨by go_num, rfl⟩⟩
        case measure => simp [intOf]
      · go_wp2_with fail
        go_ret
        exact ⟨rfl, (Below.refl _ w).alloc (Nat.le_refl _) _, Nat.le_refl _⟩

end Go.Proofs.YbulkbvduFmt

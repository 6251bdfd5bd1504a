/-
  Seat b3590aF: errorAt, digitsEnd, isDigit: the walks of the leaves.
-/
import Derived.Test.YbulkbvicFmtProg
import Derived.Test.YbulkbvicFmtPlain
import Derived.WalkKit
import Derived.WalkSpells
import Derived.WalkLawsBesides
import Derived.LoopTactic
import Derived.Outline
import Derived.Stop.CallBack
import Derived.Stop.IfaceNil
namespace Go.Proofs.YbulkbvicFmt
open Go.RowKit Go.Extern.Stop Go.Stop Go.Extern

theorem call28 (args : Array Value) (w : World) : (callFunc 28 args).run Ybaf.prog w = (FmtCalls.sprintf #[9, 107] #[9] args).run Ybaf.prog w :=
  run_callFunc_next Ybaf.func28 (by kernel_rfl) (by kernel_rfl) (by kernel_rfl) args w
theorem guard28 (name : String) (w : World) : (FmtStop.guard name).run Ybaf.prog w = .ok () w := by kernel_rfl
theorem nextTurns : Extern.next FmtCalls.turnsRow = some (FmtCalls.begun #[] #[]) := by kernel_rfl

set_option maxHeartbeats 1000000 in
/-- errorAt(off, f) with no operand: a new error, whatever text fmt gives. -/
theorem errorAt_any (off : Int) (f : ByteArray) (hf : FmtStop.printed? f 0 = some []) (w : World) :
    Calls Ybaf.prog 36 #[.int .i64 off, .string f, .slice none 0 0] w fun e w' => (∃ a, e = .returned (.pointer (some a))) ∧ Below w.heap.size w w' := by
  have h1 := call28
  have h2 := guard28
  go_enter Ybaf.func36, Ybaf.ntmps36
  go_wp2
  apply rows_value nextTurns
  case hr =>
    go_simp
    exact ⟨rfl, rfl⟩
  case h =>
    go_wp2
    go_ret
    exact ⟨⟨_, rfl⟩, ((Below.refl _ w).alloc (Nat.le_refl _) _).drew⟩

set_option maxHeartbeats 1000000 in
theorem isDigit_any (c : Int) (w : World) : Calls Ybaf.prog 49 #[.int .u8 c] w fun e w' => e = .returned (.bool (dig c)) ∧ w' = w := by
  by_cases h1 : 48 ≤ c
  · go_enter Ybaf.func49, Ybaf.ntmps49
    go_wp2
    go_ret
    exact ⟨by simp [dig, h1], rfl⟩
  · have hd : decide (48 ≤ c) = false := by simpa using h1
    have HD : Hid (dig c = false) := by show dig c = false; simp [dig, hd]
    go_enter Ybaf.func49, Ybaf.ntmps49
    go_wp2
    go_ret
    exact ⟨by rw [HD.out]; rfl, rfl⟩

set_option maxHeartbeats 1000000 in
theorem digits_any (b off n cap : Nat) (f : Nat → Int) (i : Nat) (j : Int) (hj : j = (i : Int)) (hi : i ≤ n) (hn : n ≤ 100000) (w : World) (hc : ∀ k, k < n → w.cell? ⟨b, off + k, none⟩ = some (.int .u8 (f k))) :
    Calls Ybaf.prog 35 #[.slice (some ⟨b, off, none⟩) n cap, .int .i64 j] w fun e w' => e = .returned (.int .i64 ((dEnd f n i : Nat) : Int)) ∧ w' = w := by
  subst hj
  have HC : Hid _ := hc
  clear hc
  go_enter Ybaf.func35, Ybaf.ntmps35
  go_wp2_with fail
  go_loop [1] (fun c => ∃ k : Nat, i ≤ k ∧ k ≤ n ∧ c = .int .i64 k ∧ Hid (dEnd f n k = dEnd f n i)) (fun c => n - (intOf c).toNat)
  case atStart => exact ⟨i, Nat.le_refl _, hi, rfl, rfl⟩
  case round =>
    obtain ⟨k, hk, hkn, rfl, hd⟩ := hrel
    by_cases hlt : k < n
    · obtain ⟨x, hx⟩ : ∃ x, x = f k := ⟨_, rfl⟩
      have hcx : w.cell? ⟨b, off + k, none⟩ = some (.int .u8 x) := by rw [hx]; exact HC.out k hlt
      cases hy : dig x
      · have HE : Hid (dEnd f n i = k) := by rw [← hd.out]; exact dEnd_no (by rw [← hx]; exact hy)
        clear hx hd
        go_wp2_with (go_at_call 49; refine (isDigit_any x _).mono ?_; rintro e w' ⟨rfl, rfl⟩)
        go_ret
        exact ⟨by rw [HE.out]; rfl, rfl⟩
      · have HE : Hid (dEnd f n (k + 1) = dEnd f n i) := by rw [← hd.out]; exact (dEnd_yes hlt (by rw [← hx]; exact hy)).symm
        clear hx hd
        go_wp2_with (go_at_call 49; refine (isDigit_any x _).mono ?_; rintro e w' ⟨rfl, rfl⟩)
        go_round
        case rel => exact ⟨k + 1, by omega, by omega, by go_num, HE⟩
        case measure => simp [intOf]; omega
    · have HE : Hid (dEnd f n i = k) := by rw [← hd.out]; exact dEnd_stop (by omega)
      clear hd
      go_wp2_with fail
      go_ret
      exact ⟨by rw [HE.out]; rfl, rfl⟩

end Go.Proofs.YbulkbvicFmt

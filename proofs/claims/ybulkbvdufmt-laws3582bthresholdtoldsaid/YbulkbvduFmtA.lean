/-
  Seat b3582aF: the leaves of Set.Compare.
-/
import Derived.Test.YbulkbvduFmtProg
import Derived.WalkKit
import Derived.WalkSpells
import Derived.WalkLawsBesides
import Derived.LoopTactic
import Derived.Outline
import Derived.BigRegion
import Derived.BigQuiet
import Derived.Deep.RegionHeld3
import Derived.Deep.DeepCutAuto
namespace Go.Proofs.YbulkbvduFmt
open Go.RowKit

def o1 (x : Int) : Int := IntKind.u64.wrap (bits .and .u64 (x / 2) 6148914691236517205 + bits .and .u64 x 6148914691236517205)
def o2 (y : Int) : Int := IntKind.u64.wrap (bits .and .u64 (y / 4) 3689348814741910323 + bits .and .u64 y 3689348814741910323)
def o3 (y : Int) : Int := bits .and .u64 (IntKind.u64.wrap (y / 16 + y)) 1085102592571150095
def o4 (y : Int) : Int := IntKind.u64.wrap (y + y / 256)
def o5 (y : Int) : Int := IntKind.u64.wrap (y + y / 65536)
def o6 (y : Int) : Int := IntKind.u64.wrap (y + y / 4294967296)
def onesOf (x : Int) : Int := bits .and .i64 (wrap64 (o6 (o5 (o4 (o3 (o2 (o1 x))))))) 127

/-- How many bits are set. -/
def pop : Nat → Nat → Nat
  | 0, _ => 0
  | k + 1, x => x % 2 + pop k (x / 2)
theorem ones_pop2 : ∀ a b : Fin 64, onesOf ((64 * a.val + b.val : Nat) : Int) = (pop 12 (64 * a.val + b.val) : Nat) := by decide +kernel
theorem ones_pop (x : Fin 4096) : onesOf (x.val : Int) = (pop 12 x.val : Nat) := by
  have h := ones_pop2 ⟨x.val / 64, by omega⟩ ⟨x.val % 64, by omega⟩
  have e : 64 * (x.val / 64) + x.val % 64 = x.val := by omega
  simp only [e] at h
  exact h

set_option maxHeartbeats 2000000 in
theorem ones_any (x : Int) (h : 0 ≤ x ∧ x < 4096) (w : World) : Calls Ybaf.prog 37 #[.int .u64 x] w fun e w' => e = .returned (.int .i64 (pop 12 x.toNat : Nat)) ∧ w' = w := by
  have hp := ones_pop ⟨x.toNat, by omega⟩
  have hx : ((x.toNat : Nat) : Int) = x := by omega
  simp only [hx] at hp
  have HP : Hid _ := hp
  clear hp hx
  go_enter Ybaf.func37, Ybaf.ntmps37
  go_wp2
  go_ret
  refine ⟨?_, rfl⟩
  rw [← HP.out]
  rfl

end Go.Proofs.YbulkbvduFmt

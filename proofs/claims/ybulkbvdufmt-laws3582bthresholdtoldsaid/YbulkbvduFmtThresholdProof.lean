/-
  Seat b3582aF: LawS3582BThresholdToldSaid, proved.
-/
import Derived.Test.YbulkbvduFmtAL
import Derived.Test.YbulkbvduFmtCards
import Derived.Test.YbulkbvduFmtTie
import Derived.SevenTiedAt
import Derived.ProofKit
import Derived.ChangeSlices
import Derived.ChangeSame
import Derived.JoinedOf
import Derived.Carry
import Derived.Stop.JoinedAt
import Derived.Stop.Texts
import Derived.Stop.JoinedTold
import Derived.LaidMore
import Derived.Lib.LaidTab
import Derived.Deep.DeepWitnessRef
namespace Go.Proofs.YbulkbvduFmt
open Go.ChangeShapes Go.WideShapes Go.ChangeAt Go.RowKit Go.Kit
open Go.Extern.Stop Go.Stop Go.Extern

theorem Th.own : ownKnob Ybaf.prog.godebug = none := by kernel_rfl
theorem Th.laidOut : laidOutB Ybaf.pinned.checked.prog = true := by kernel_rfl
theorem Th.stops : Ybaf.pinned.checked.prog.stops = Rows.lawS3582BThresholdRow.stops := by kernel_rfl
theorem Th.stopKnobs : Ybaf.pinned.checked.prog.stopKnobs = [] := by kernel_rfl
theorem Th.quiet (os : Os) : Stop.quiet Ybaf.pinned.checked.prog os := by
  intro k hk
  rw [Th.stopKnobs] at hk
  cases hk

/-- The name of the one listed variable. -/
def Th.name : String := (Rows.lawS3582BThresholdRow.laid.map (·.1)).headD ""
theorem Th.gT : Ybaf.prog.globalNamed Th.name = some 0 := by kernel_rfl
theorem Th.gTType : (Ybaf.prog.globals[0]?).map (·.type) = some 108 := by kernel_rfl
theorem Th.under108 : Ybaf.prog.underlying 108 = some (.array 64 5) := by kernel_rfl
theorem Th.cells5 : Ybaf.prog.cellsOf 5 = 1 := by kernel_rfl
theorem Th.cells108 : Ybaf.prog.cellsOf 108 = 64 := by kernel_rfl

/-- The door's own heap meets the condition. -/
theorem Th.door_met (os : Os) (args : Array Value) : laidMetH Ybaf.prog Rows.lawS3582BThresholdRow.laid ((World.doorLaid Ybaf.prog 400 os).forCall (fun _ _ => 0) ⟨#[], args, []⟩).memory :=
  laidMetH_of_parts3 (fuel := 8) (laidMet_of_run' 8 (by kernel_rfl) (by kernel_rfl)) (by kernel_rfl) (by kernel_rfl)

/-- The table, out of the condition. -/
theorem Th.tab {W : World} (hL : laidMetH Ybaf.prog Rows.lawS3582BThresholdRow.laid W) : Tab W := by
  have h1 : laidMet Ybaf.prog ((Th.name, Lib.tabData .u8 (Lib.deBruijn64tab.map (fun (n : Nat) => (n : Int)))) :: []) W := hL
  have hT := Lib.tabIs_of_head Th.gT Th.gTType Th.under108 Ybaf.underlying5 Th.cells5 Th.cells108 h1
  intro j hj
  have h2 := hT.cell Th.gT j (by simpa using hj)
  rw [show Ybaf.tz64_ren.g 1 = 0 from rfl, h2]
  simp [List.getD, hj]

set_option maxRecDepth 100000 in
theorem Th.lifted (os : Os) (started : os.Started) (H : Type) (enc : TypeId × Value → H) :
    ReturnsInTold none {} Ybaf.checked os 3 .any Input.okWide ((OpenSpec.ofChange Rows.lawS3582BThresholdSpec).preRow enc Ybaf.prog Ybaf.f3 [] false Rows.lawS3582BThresholdRow.laid) (fun F => ((OpenSpec.ofChange Rows.lawS3582BThresholdSpec).at F).post enc Ybaf.prog Ybaf.f3 false true false false) (aloneAtReturn Ybaf.prog) nothingAlways := by
  refine returnsInTold_of_row (C := Ybaf.checked) (s := OpenSpec.ofChange Rows.lawS3582BThresholdSpec) (by kernel_rfl) Th.own started (by kernel_rfl) Ybaf.func3
    (OpenSpec.witness_stopped_atRef (enc := enc) (C := Ybaf.checked) false (World.doorLaid Ybaf.prog 400 os) #[.int .u8 0, .int .u8 0] rfl (by kernel_rfl) (by kernel_rfl) (by kernel_rfl)
      (OpenSpec.preRow_of_B rfl 8 (by kernel_rfl) (by kernel_rfl) (Th.door_met os _))) ?_
  intro F W base args ds gs before _ hF hval0 hW _ _ _ hL _
  have hval : ∀ (j : Nat) t v, Ybaf.f3.params[j]? = some t → args[j]? = some v → Value.okWide Ybaf.prog W .any base t v := hval0
  have hW' := hW
  obtain ⟨p, q, hA0, hV, rfl, _, _⟩ := hW
  have hA : DataW.TrodAll enc Ybaf.prog W 0 (fun _ => true) true Ybaf.f3.params.toList args.toList ds p := hA0
  rw [Ybaf.params3] at hA hval
  obtain ⟨v0, v1, d0, d1, p0, p1, rfl, rfl, rfl, h0, h1⟩ := trodAll_two hA
  obtain ⟨rfl, rfl⟩ := trodVars_none hV
  obtain ⟨nb, rfl, rfl, rfl, wn⟩ := open_int Ybaf.underlying5 (hval 0 5 v0 rfl rfl) h0
  obtain ⟨tb, rfl, rfl, rfl, wt⟩ := open_int Ybaf.underlying5 (hval 1 5 v1 rfl rfl) h1
  clear hA0 hval0
  have hn : 0 ≤ nb ∧ nb ≤ 255 := by
    have := wn
    simp [Lit.wf, IntKind.min, IntKind.max, IntKind.signed, IntKind.bits] at this
    omega
  have ht : 0 ≤ tb ∧ tb ≤ 255 := by
    have := wt
    simp [Lit.wf, IntKind.min, IntKind.max, IntKind.signed, IntKind.bits] at this
    omega
  obtain ⟨n, rfl⟩ := Int.eq_ofNat_of_zero_le hn.1
  obtain ⟨t, rfl⟩ := Int.eq_ofNat_of_zero_le ht.1
  refine (law_any n t (by omega) (by omega) W (Th.tab hL)).mono fun e W' ⟨he, hnx⟩ => ?_
  subst he
  refine ⟨_, rfl, _, _, _, [], [] ++ [], [], hW', ?_, ?_, rfl, hnx.frame _, fun h => by cases h⟩
  · exact trodAll_mk1 (shut_bool Ybaf.underlying4 _)
  · exact trodAll_mk2 (shut_int Ybaf.underlying5 wn) (shut_int Ybaf.underlying5 wt)

theorem lawS3582BThreshold_proved : Rows.LawS3582BThresholdToldSaid :=
  Claim7.holds_of_told_tied_any_at .later (c := Rows.lawS3582BThresholdRow) 3 Ybaf.f3 _ _ [] _ _ _ _ _ (by kernel_rfl) rfl rfl rfl Th.laidOut (by kernel_rfl) rfl ⟨rfl, rfl, rfl, rfl, rfl, rfl, rfl⟩ rfl rfl (by kernel_rfl) (by kernel_rfl) Ybaf.func3 (by kernel_rfl)
    (of_decide_eq_true (by kernel_rfl)) (of_decide_eq_true (by kernel_rfl)) Th.stops.symm rfl Th.stopKnobs.symm (by kernel_rfl)
    (by kernel_rfl) (by kernel_rfl) (by kernel_rfl) (by kernel_rfl) (by kernel_rfl) (by kernel_rfl) (by kernel_rfl) (by kernel_rfl) (by kernel_rfl) rfl (by kernel_rfl) rfl rfl
    rfl rfl
    rfl (by kernel_rfl) (by kernel_rfl) (by kernel_rfl) (by decide) (by kernel_rfl) lawS3582BThreshold_row_tie
    (OpenClaim.moreEntering_of (by kernel_rfl) (by kernel_rfl) (by kernel_rfl) (by kernel_rfl) (by kernel_rfl) (by kernel_rfl) (by kernel_rfl) (by kernel_rfl) (by kernel_rfl) (by kernel_rfl))
    ⟨_, WideRow.started_initial, Th.quiet _⟩
    (fun os started _ H enc _ => Th.lifted os started H enc)

end Go.Proofs.YbulkbvduFmt

/-
  Seat b3590aF: what the told cards share: the closed facts, and a slice of bytes opened.
-/
import Derived.Test.YbulkbvicFmtF
import Derived.Test.YbulkbvicFmtCards
import Derived.SevenToldRow
import Derived.ProofKit
import Derived.ChangeSlices
import Derived.ChangeSame
import Derived.ChangeMaps5
import Derived.JoinedOf
import Derived.Carry
import Derived.Stop.JoinedAt
import Derived.Stop.Texts
import Derived.Stop.JoinedTold
namespace Go.Proofs.YbulkbvicFmt
open Go.ChangeShapes Go.WideShapes Go.ChangeAt Go.RowKit Go.Kit
open Go.Extern.Stop Go.Stop Go.Extern

theorem Ybaf.own : ownKnob Ybaf.prog.godebug = none := by kernel_rfl
theorem Ybaf.laidOut : laidOutB Ybaf.pinned.checked.prog = true := by kernel_rfl
theorem Ybaf.cells5 : Ybaf.prog.cellsOf 5 = 1 := by kernel_rfl
theorem Ybaf.stops : Ybaf.pinned.checked.prog.stops = Rows.lawS3590AModelRow.stops := by kernel_rfl
theorem Ybaf.stopKnobs : Ybaf.pinned.checked.prog.stopKnobs = [] := by kernel_rfl
theorem Ybaf.quiet (os : Os) : Stop.quiet Ybaf.pinned.checked.prog os := by
  intro k hk
  rw [Ybaf.stopKnobs] at hk
  cases hk

/-- A slice of bytes, as it came in: its text lies there, and its bytes are bytes. -/
theorem open_txt {H : Type} {enc : TypeId × Value → H} {W : World} {a0 : Option Addr} {len cap : Nat} {d0 : DataW H} {q : List MemPlace}
    (h : DataW.Trod enc Ybaf.prog W 0 (fun _ => true) true 22 (.slice a0 len cap) d0 q) :
    ∃ f : Nat → Int, Txt W a0 len f ∧ ∀ k, k < len → 0 ≤ f k ∧ f k ≤ 255 := by
  obtain ⟨fuel, hf⟩ := h
  rcases open_ints Ybaf.underlying22 Ybaf.underlying5 Ybaf.cells5 hf with ⟨hcs, hx⟩ | ⟨a, len', cap', zs, hcs, _, hl, hm, hz, hx, hcell, hwz⟩
  · simp [Value.cells] at hcs
    obtain ⟨rfl, rfl, rfl⟩ := hcs
    exact ⟨fun _ => 0, .inl rfl, fun k hk => absurd hk (Nat.not_lt_zero k)⟩
  · simp [Value.cells] at hcs
    obtain ⟨rfl, rfl, rfl⟩ := hcs
    simp only [if_true] at hz
    refine ⟨fun k => zs.getD k 0, ?_, ?_⟩
    · by_cases h0 : len = 0
      · exact .inl h0
      · have hc0 := hcell 0 (by omega)
        have hsp : a.spot = none := by
          have e0 : a.add 0 = a := by simp [Addr.add]
          rw [e0] at hc0
          simp only [World.cell?] at hc0
          split at hc0
          · split at hc0
            · cases hc0
            · rename_i hs; simpa using hs
          · cases hc0
        have ea : ∀ k, a.add k = ⟨a.block, a.off + k, none⟩ := by
          intro k
          by_cases hk : k = 0
          · subst hk
            obtain ⟨ab, ao, asp⟩ := a
            simp only at hsp
            subst hsp
            simp [Addr.add]
          · simp [Addr.add, hk]
        refine .inr ⟨a.block, a.off, ?_, ?_, fun k hk => ?_⟩
        · have e0 := ea 0; simp only [Nat.add_zero] at e0; rw [← e0]; simp [Addr.add]
        · rw [ea 0] at hc0
          simp only [World.cell?] at hc0
          split at hc0
          · rename_i hh; exact (Array.getElem?_eq_some_iff.1 hh).1
          · cases hc0
        · rw [← ea k]; exact hcell k (by omega)
    · intro k hk
      have hk2 : k < zs.length := by omega
      have hw := hwz (zs.getD k 0) (by rw [List.getD_eq_getElem?_getD, List.getElem?_eq_getElem hk2]; exact List.getElem_mem hk2)
      simp [Lit.wf, IntKind.min, IntKind.max, IntKind.signed, IntKind.bits] at hw
      simpa using hw

end Go.Proofs.YbulkbvicFmt

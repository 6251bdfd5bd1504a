/-
  Seat b3590aF: LawS3590BFirstWinsToldSaid, proved.
-/
import Derived.Test.YbulkbvicFmtR
import Derived.Test.YbulkbvicFmtCards
import Derived.SevenToldRow
import Derived.ProofKit
import Derived.ChangeSlices
import Derived.ChangeSame
import Derived.ChangeMaps5
import Derived.JoinedOf
import Derived.Carry
import Derived.Stop.JoinedAt
import Derived.Stop.Texts
import Derived.Stop.JoinedTold
namespace Go.Proofs.YbulkbvicFmt
open Go.ChangeShapes Go.WideShapes Go.ChangeAt Go.RowKit Go.Kit
open Go.Extern.Stop Go.Stop Go.Extern

theorem Yb2.own : ownKnob Ybaf.prog.godebug = none := by kernel_rfl
theorem Yb2.laidOut : laidOutB Ybaf.pinned.checked.prog = true := by kernel_rfl
theorem Yb2.cells5 : Ybaf.prog.cellsOf 5 = 1 := by kernel_rfl
theorem Yb2.cells3 : Ybaf.prog.cellsOf 3 = 1 := by kernel_rfl
theorem Yb2.cells46 : Ybaf.prog.cellsOf 46 = 3 := by kernel_rfl
theorem Yb2.stops : Ybaf.pinned.checked.prog.stops = Rows.lawS3590BFirstWinsRow.stops := by kernel_rfl
theorem Yb2.stopKnobs : Ybaf.pinned.checked.prog.stopKnobs = [] := by kernel_rfl
theorem Yb2.quiet (os : Os) : Stop.quiet Ybaf.pinned.checked.prog os := by
  intro k hk
  rw [Yb2.stopKnobs] at hk
  cases hk

/-- The number in a cell. -/
def numAt : Option Value → Int
  | some (.int _ z) => z
  | _ => 0

/-- One step, as it came in. -/
theorem step_cells {H : Type} {enc : TypeId × Value → H} {W : World} {a : Addr} {n : Nat} {y : DataW H × List MemPlace}
    (h : (W.cells? 0 a 3).bind (DataW.trod enc Ybaf.prog W 0 (fun _ => true) true n 46) = some y) :
    ∃ k l c : Int, W.cell? (a.add 0) = some (.int .u8 k) ∧ W.cell? (a.add 1) = some (.int .i64 l) ∧ W.cell? (a.add 2) = some (.int .i64 c) ∧ (Lit.int .u8 k).wf = true ∧ (Lit.int .i64 l).wf = true := by
  rw [Option.bind_eq_some_iff] at h
  obtain ⟨cs, hcs, hy⟩ := h
  obtain ⟨_, hlen, hget⟩ := World.cells?_some hcs
  obtain ⟨xs, m, _, _, hcl, hxl, hf⟩ := DataW.trod_struct Ybaf.underlying46 hy
  have hx3 : xs.length = 3 := hxl
  have f0 : DataW.trod enc Ybaf.prog W 0 (fun _ => true) true m 5 ((cs.drop 0).take (Ybaf.prog.cellsOf 5)) = xs[0]? := hf 0 _ rfl
  have f1 : DataW.trod enc Ybaf.prog W 0 (fun _ => true) true m 3 ((cs.drop 1).take (Ybaf.prog.cellsOf 3)) = xs[1]? := hf 1 _ rfl
  have f2 : DataW.trod enc Ybaf.prog W 0 (fun _ => true) true m 3 ((cs.drop 2).take (Ybaf.prog.cellsOf 3)) = xs[2]? := hf 2 _ rfl
  rw [Yb2.cells5, List.getElem?_eq_getElem (by omega)] at f0
  rw [Yb2.cells3, List.getElem?_eq_getElem (by omega)] at f1 f2
  clear hf
  match cs, hlen, hget, f0, f1, f2 with
  | [v0, v1, v2], _, hget, f0, f1, f2 =>
    obtain ⟨k, e0, _, w0⟩ := DataW.trod_int Ybaf.underlying5 f0
    obtain ⟨l, e1, _, w1⟩ := DataW.trod_int Ybaf.underlying3 f1
    obtain ⟨c, e2, _, w2⟩ := DataW.trod_int Ybaf.underlying3 f2
    simp at e0 e1 e2
    subst e0; subst e1; subst e2
    exact ⟨k, l, c, hget 0 (by omega), hget 1 (by omega), hget 2 (by omega), w0, w1⟩

/-- The script, as it came in. -/
theorem open_steps {H : Type} {enc : TypeId × Value → H} {W : World} {a0 : Option Addr} {len cap : Nat} {d0 : DataW H} {q : List MemPlace}
    (h : DataW.Trod enc Ybaf.prog W 0 (fun _ => true) true 29 (.slice a0 len cap) d0 q) :
    ∃ key line col : Nat → Int, Steps W a0 len key line col ∧ (∀ k, k < len → 0 ≤ key k ∧ key k ≤ 255) ∧ (∀ k, k < len → -9223372036854775808 ≤ line k) := by
  obtain ⟨fuel, hf⟩ := h
  rcases DataW.trod_slice Ybaf.underlying29 hf with ⟨h0, _⟩ | ⟨a, len', cap', elems, rest, n, _, h0, _, _, hl, hm, hlen, hel, _, _⟩
  · simp [Value.cells] at h0
    obtain ⟨rfl, rfl, rfl⟩ := h0
    exact ⟨fun _ => 0, fun _ => 0, fun _ => 0, .inl rfl, fun k hk => absurd hk (Nat.not_lt_zero k), fun k hk => absurd hk (Nat.not_lt_zero k)⟩
  · simp [Value.cells] at h0
    obtain ⟨rfl, rfl, rfl⟩ := h0
    have each : ∀ i, i < len → ∃ k l c : Int, W.cell? ((a.add (i * 3)).add 0) = some (.int .u8 k) ∧ W.cell? ((a.add (i * 3)).add 1) = some (.int .i64 l) ∧ W.cell? ((a.add (i * 3)).add 2) = some (.int .i64 c) ∧ (Lit.int .u8 k).wf = true ∧ (Lit.int .i64 l).wf = true := fun i hi => by
      have := hel i hi
      rw [Yb2.cells46, List.getElem?_eq_getElem (by omega)] at this
      exact step_cells this
    by_cases h0 : len = 0
    · subst h0
      exact ⟨fun _ => 0, fun _ => 0, fun _ => 0, .inl rfl, fun k hk => absurd hk (Nat.not_lt_zero k), fun k hk => absurd hk (Nat.not_lt_zero k)⟩
    · obtain ⟨k0, _, _, hc0, _⟩ := each 0 (by omega)
      have hsp : a.spot = none := by
        have e0 : (a.add (0 * 3)).add 0 = a := by simp [Addr.add]
        rw [e0] at hc0
        simp only [World.cell?] at hc0
        split at hc0
        · split at hc0
          · cases hc0
          · rename_i hs; simpa using hs
        · cases hc0
      obtain ⟨ab, ao, asp⟩ := a
      simp only at hsp
      subst hsp
      have ea : ∀ i j, (Addr.add (Addr.add ⟨ab, ao, none⟩ i) j) = ⟨ab, ao + i + j, none⟩ := by
        intro i j
        by_cases hi : i = 0 <;> by_cases hj : j = 0 <;> simp [Addr.add, hi, hj]
      refine ⟨fun k => numAt (W.cell? ⟨ab, ao + k * 3, none⟩), fun k => numAt (W.cell? ⟨ab, ao + k * 3 + 1, none⟩), fun k => numAt (W.cell? ⟨ab, ao + k * 3 + 2, none⟩), .inr ⟨ab, ao, rfl, ?_, fun k hk => ?_⟩, fun k hk => ?_, fun k hk => ?_⟩
      · rw [ea] at hc0; exact lt_of_cell hc0
      · obtain ⟨x, l, c, c1, c2, c3, _, _⟩ := each k hk
        rw [ea] at c1 c2 c3
        rw [Nat.add_zero] at c1
        simp only [c1, c2, c3, numAt, and_self]
      · obtain ⟨x, l, c, c1, c2, c3, wx, _⟩ := each k hk
        rw [ea, Nat.add_zero] at c1
        simp only [c1, numAt]
        simp [Lit.wf, IntKind.min, IntKind.max, IntKind.signed, IntKind.bits] at wx
        simpa using wx
      · obtain ⟨x, l, c, c1, c2, c3, _, wl⟩ := each k hk
        rw [ea] at c2
        simp only [c2, numAt]
        simp [Lit.wf, IntKind.min, IntKind.max, IntKind.signed, IntKind.bits] at wl
        omega

set_option maxHeartbeats 1000000 in
theorem first_long (p : Option Addr) (n cap : Nat) (h : 1024 < n) (w : World) :
    Calls Ybaf.prog 6 #[.slice p n cap] w fun e w' => e = .returned (.bool true) ∧ Below w.heap.size w w' := by
  have hl : (1024 : Int) < n := by omega
  go_enter Ybaf.func6, Ybaf.ntmps6
  go_wp2_with fail
  go_ret
  exact ⟨rfl, Below.refl _ w⟩

set_option maxRecDepth 100000 in
theorem first_lifted (os : Os) (started : os.Started) (H : Type) (enc : TypeId × Value → H) :
    ReturnsInTold none {} Ybaf.checked os 6 .any Input.okWide ((OpenSpec.ofChange Rows.lawS3590BFirstWinsSpec).preRow enc Ybaf.prog Ybaf.f6 [] false []) (fun F => ((OpenSpec.ofChange Rows.lawS3590BFirstWinsSpec).at F).post enc Ybaf.prog Ybaf.f6 false true false false) (aloneAtReturn Ybaf.prog) nothingAlways := by
  refine returnsInTold_of_row (C := Ybaf.checked) (s := OpenSpec.ofChange Rows.lawS3590BFirstWinsSpec) (by kernel_rfl) Yb2.own started (by kernel_rfl) Ybaf.func6
    (OpenSpec.witness_stopped (enc := enc) (C := Ybaf.checked) false ⟨#[], #[.slice none 0 0], []⟩ 8 (by kernel_rfl) (by kernel_rfl) (by kernel_rfl) (by kernel_rfl)) ?_
  intro F W base args ds gs before _ hF hval0 hW _ _ hsz _ _
  have hval : ∀ (j : Nat) t v, Ybaf.f6.params[j]? = some t → args[j]? = some v → Value.okWide Ybaf.prog W .any base t v := hval0
  have hW' := hW
  obtain ⟨p, q, hA0, hV, rfl, _, _⟩ := hW
  have hA : DataW.TrodAll enc Ybaf.prog W 0 (fun _ => true) true Ybaf.f6.params.toList args.toList ds p := hA0
  rw [Ybaf.params6] at hA hval
  obtain ⟨v0, d0, rfl, rfl, h0⟩ := trodAll_one hA
  obtain ⟨rfl, rfl⟩ := trodVars_none hV
  obtain ⟨a0, len, cap, rfl⟩ := okWide_slice Ybaf.underlying29 (hval 0 29 v0 rfl rfl)
  clear hA0 hval0
  simp only [List.append_nil] at hW'
  have hlt : ∀ x ∈ p, x.block < W.heap.size := fun x hx => by simpa using hW'.lt x hx
  have hargs : ∀ (W' : World), Below W.heap.size W W' → DataW.Trod enc Ybaf.prog W' 0 (fun b => decide (b < W.heap.size)) true 29 (.slice a0 len cap) d0 p :=
    fun W' hn => Below.trod Yb2.laidOut (by kernel_rfl) (of_decide_eq_true (by kernel_rfl)) h0 hn hlt
  obtain ⟨key, line, col, hS, hk, hl⟩ := open_steps h0
  have hwalk : Calls Ybaf.prog 6 #[.slice a0 len cap] W fun e w' => e = .returned (.bool true) ∧ Below W.heap.size W w' := by
    by_cases h : 1024 < len
    · exact first_long a0 len cap h W
    · exact first_in a0 len cap key line col hk hl (by omega) W hS
  refine hwalk.mono fun e W' ⟨he, hnx⟩ => ?_
  subst he
  refine ⟨_, rfl, _, _, _, [], _, [], hW', ?_, trodAll_mk1 (hargs _ hnx), rfl, hnx.frame _, fun h => by cases h⟩
  exact trodAll_mk1 (shut_bool Ybaf.underlying4 _)

theorem lawS3590BFirstWins_proved : Rows.LawS3590BFirstWinsToldSaid :=
  Claim7.holds_of_told_any (c := Rows.lawS3590BFirstWinsRow) 6 Ybaf.f6 _ _ [] _ _ _ (by kernel_rfl) rfl rfl rfl Yb2.laidOut (by kernel_rfl) rfl ⟨rfl, rfl, rfl, rfl, rfl, rfl, rfl⟩ rfl rfl (by kernel_rfl) (by kernel_rfl) Ybaf.func6 (by kernel_rfl)
    (of_decide_eq_true (by kernel_rfl)) (of_decide_eq_true (by kernel_rfl)) Yb2.stops.symm rfl Yb2.stopKnobs.symm (by kernel_rfl)
    (by kernel_rfl) (by kernel_rfl) (by kernel_rfl) (by kernel_rfl) (by kernel_rfl) (by kernel_rfl) (by kernel_rfl) (by kernel_rfl) (by kernel_rfl) rfl (by kernel_rfl) rfl rfl
    rfl rfl
    rfl (by kernel_rfl) (by kernel_rfl) (by kernel_rfl) (by decide) (by kernel_rfl)
    (OpenClaim.moreEntering_of (by kernel_rfl) (by kernel_rfl) (by kernel_rfl) (by kernel_rfl) (by kernel_rfl) (by kernel_rfl) (by kernel_rfl) (by kernel_rfl) (by kernel_rfl) (by kernel_rfl))
    ⟨_, WideRow.started_initial, Yb2.quiet _⟩
    (fun os started _ H enc _ => first_lifted os started H enc)

end Go.Proofs.YbulkbvicFmt

/-
  Seat b3582a: 'Rows.LawS3582CExactSaid': the row out of the walks (the frame: the kit's shell, turned for a slice of strings).
-/
import Derived.Test.YbulkbvduRows
import Derived.WalkKit
import Derived.ProofKit
import Derived.OpenShut
import Derived.ShutString
import Derived.ChangeOld
import Derived.Below
import Derived.SliceStrings
import Derived.Test.YbulkbvduExactB
import Derived.Test.YbulkbvduExactC
import Derived.Test.YbulkbvduExactD
namespace Go.Proofs.Ybulkbvdu.lawS3582CExact
open Go.ChangeShapes Go.WideShapes Go.ChangeAt Go.RowKit
open Go.ChangeMaps (open_string shut_string)
set_option linter.unusedVariables false

theorem own : ownKnob Yba.prog.godebug = none := by kernel_rfl
theorem laidOut : laidOutB Yba.prog = true := by kernel_rfl

/-- WHAT THE WALK IS TOLD OF A SLICE OF INTEGERS THAT CAME IN: it is nil; or it leads to a row of 'cap' cells, the numbers 'zs' (the first 'len' are its elements, the rest its spare room), each fitting its kind. -/
def IsRow (k : IntKind) (w : World) (a : Option Addr) (len cap : Nat) (zs : List Int) : Prop :=
  (a = none ∧ len = 0 ∧ cap = 0 ∧ zs = []) ∨
  ∃ x, a = some x ∧ len ≤ cap ∧ cap ≤ maxLen ∧ zs.length = cap ∧ (∀ i, i < zs.length → w.cell? (x.add i) = some (.int k (zs.getD i 0))) ∧ ∀ n ∈ zs, (Lit.int k n).wf = true

/-- The like of a slice of strings. -/
def IsRowS (w : World) (a : Option Addr) (len cap : Nat) (ss : List ByteArray) : Prop :=
  (a = none ∧ len = 0 ∧ cap = 0 ∧ ss = []) ∨
  ∃ x, a = some x ∧ len ≤ cap ∧ cap ≤ maxLen ∧ ss.length = cap ∧ (∀ i, i < ss.length → w.cell? (x.add i) = some (.string (ss.getD i ByteArray.empty))) ∧ ∀ s ∈ ss, s.size ≤ maxLen

theorem lies_of {w : World} {t : TypeId} {a : Option Addr} {len cap : Nat} {f : Nat → Value} (ht : Yba.prog.underlying t = some (.slice (Yba.prog.elem t))) (hs : ∀ W, (sizeOf (Yba.prog.elem t)).run Yba.prog W = .ok 1 W)
    (h : len = 0 ∨ ∃ x, a = some x ∧ ∀ i, i < len → w.cell? (x.add i) = some (f i)) : ∃ b off, Lies w t a len cap b off f := by
  by_cases h0 : len = 0
  · exact ⟨0, 0, fun k W hk => absurd hk (by omega), fun k hk => absurd hk (by omega)⟩
  · rcases h with h | ⟨x, rfl, hc⟩
    · exact absurd h h0
    · obtain ⟨b, off, spot⟩ := x
      have hspot : spot = none := by simpa [Addr.add] using World.cell?_spot (hc 0 (by omega))
      subst hspot
      refine ⟨b, off, fun k W hk => ?_, fun k hk => ?_⟩
      · rw [run_indexAt_slice W t _ len cap .i64 (k : Int) ht, if_pos (by omega), hs W]
        simp [Result.andThen, Addr.add]
      · rw [← hc k hk, add_plain]

theorem walk (a0 : Bool) (a1 : Bool) (a2 : Bool) (a3 : Int) (a4 : ByteArray) (a5 : Option Addr) (len5 cap5 : Nat) (z5 : List Int) (a6 : Option Addr) (len6 cap6 : Nat) (z6 : List ByteArray) (a7 : Int) (w : World) (w5 : IsRow .i64 w a5 len5 cap5 z5) (w6 : IsRowS w a6 len6 cap6 z6) :
    Calls Yba.prog 3 #[.bool a0, .bool a1, .bool a2, .int .i64 a3, .string a4, .slice a5 len5 cap5, .slice a6 len6 cap6, .int .i64 a7] w fun e w' => e = .returned (.bool true) ∧ Below w.heap.size w w' := by
  by_cases hl : 1024 < len5
  · exact exact_long a0 a1 a2 a3 a4 a5 len5 cap5 a6 len6 cap6 a7 w hl
  have hl' : len5 ≤ 1024 := by omega
  cases a2
  · obtain ⟨b5, o5, l5⟩ : ∃ b off, Lies w 22 a5 len5 cap5 b off (fun k => .int .i64 (z5.getD k 0)) := by
      refine lies_of Yba.underlying22 (fun W => by kernel_rfl) ?_
      rcases w5 with ⟨_, h, _⟩ | ⟨x, rfl, h1, _, h3, h4, _⟩
      · exact .inl h
      · exact .inr ⟨x, rfl, fun i hi => h4 i (by omega)⟩
    obtain ⟨b6, o6, l6⟩ : ∃ b off, Lies w 23 a6 len6 cap6 b off (fun k => .string (z6.getD k ByteArray.empty)) := by
      refine lies_of Yba.underlying23 (fun W => by kernel_rfl) ?_
      rcases w6 with ⟨_, h, _⟩ | ⟨x, rfl, h1, _, h3, h4, _⟩
      · exact .inl h
      · exact .inr ⟨x, rfl, fun i hi => h4 i (by omega)⟩
    have wf5 : ∀ k, k < len5 → (Lit.int .i64 (z5.getD k 0)).wf = true := fun k hk => by
      rcases w5 with ⟨_, h, _⟩ | ⟨x, rfl, h1, _, h3, _, h5⟩
      · omega
      · rw [List.getD, List.getElem?_eq_getElem (by omega)]; exact h5 _ (List.getElem_mem _)
    have wf6 : ∀ k, k < len6 → (z6.getD k ByteArray.empty).size ≤ maxLen := fun k hk => by
      rcases w6 with ⟨_, h, _⟩ | ⟨x, rfl, h1, _, h3, _, h5⟩
      · omega
      · rw [List.getD, List.getElem?_eq_getElem (by omega)]; exact h5 _ (List.getElem_mem _)
    cases a0
    · exact exact_not a1 a3 a4 a5 len5 cap5 b5 o5 _ a6 len6 cap6 b6 o6 _ a7 w hl' l5 l6 wf5 wf6
    · cases a1
      · by_cases h3 : 0 < a3
        · exact exact_dec a3 a4 a5 len5 cap5 b5 o5 _ a6 len6 cap6 b6 o6 _ a7 w hl' l5 l6 wf5 wf6 h3
        · exact exact_und a3 a4 a5 len5 cap5 b5 o5 _ a6 len6 cap6 b6 o6 _ a7 w hl' l5 l6 wf5 wf6 h3
      · exact exact_stop a3 a4 a5 len5 cap5 b5 o5 _ a6 len6 cap6 b6 o6 _ a7 w hl' l5 l6 wf5 wf6
  · cases a0
    · exact nil_not a1 a3 a4 a5 len5 cap5 a6 len6 cap6 a7 w hl'
    · cases a1
      · by_cases h3 : 0 < a3
        · exact nil_dec a3 a4 a5 len5 cap5 a6 len6 cap6 a7 w hl' h3
        · exact nil_und a3 a4 a5 len5 cap5 a6 len6 cap6 a7 w hl' h3
      · exact nil_stop a3 a4 a5 len5 cap5 a6 len6 cap6 a7 w hl'

/-! ### THE ROW's STEP: WRITTEN OUT: LEAVE IT -/
set_option maxRecDepth 100000 in
theorem lifted (os : Os) (started : os.Started) (H : Type) (enc : TypeId × Value → H) :
    ReturnsInHanded {} Yba.checked os 3 .any (Rows.lawS3582CExactSpec.pre6 enc Yba.prog Yba.f3 Rows.lawS3582CExactRow.domain false) (Rows.lawS3582CExactSpec.post enc Yba.prog Yba.f3 false true false false) := by
  refine returnsInHanded_of_change (C := Yba.checked) own started (by kernel_rfl) Yba.func3
    (ChangeSpec.witness6 (enc := enc) (C := Yba.checked) false ⟨#[], #[.bool false, .bool false, .bool false, .int .i64 0, .string ByteArray.empty, .slice none 0 0, .slice none 0 0, .int .i64 0], []⟩ 8 (by kernel_rfl) (by kernel_rfl) (by kernel_rfl) (by kernel_rfl)) ?_
  intro W base args ds gs before hval0 hW hcnd _
  have hval : ∀ (j : Nat) t v, Yba.f3.params[j]? = some t → args[j]? = some v → Value.okWide Yba.prog W .any base t v := hval0
  have hW' := hW
  obtain ⟨p, q, hA0, hV, rfl, hfz, hnd⟩ := hW
  have hA : DataW.TrodAll enc Yba.prog W 0 (fun _ => true) true Yba.f3.params.toList args.toList ds p := hA0
  rw [Yba.params3] at hA hval
  obtain ⟨v0, vs0, d0, ds0, p0, q0, hargs, rfl, rfl, h0, r0⟩ := trodAll_cons hA
  obtain ⟨v1, vs1, d1, ds1, p1, q1, rfl, rfl, rfl, h1, r1⟩ := trodAll_cons r0
  obtain ⟨v2, vs2, d2, ds2, p2, q2, rfl, rfl, rfl, h2, r2⟩ := trodAll_cons r1
  obtain ⟨v3, vs3, d3, ds3, p3, q3, rfl, rfl, rfl, h3, r3⟩ := trodAll_cons r2
  obtain ⟨v4, vs4, d4, ds4, p4, q4, rfl, rfl, rfl, h4, r4⟩ := trodAll_cons r3
  obtain ⟨v5, vs5, d5, ds5, p5, q5, rfl, rfl, rfl, h5, r5⟩ := trodAll_cons r4
  obtain ⟨v6, vs6, d6, ds6, p6, q6, rfl, rfl, rfl, h6, r6⟩ := trodAll_cons r5
  obtain ⟨v7, vs7, d7, ds7, p7, q7, rfl, rfl, rfl, h7, r7⟩ := trodAll_cons r6
  obtain ⟨rfl, rfl, rfl⟩ := trodAll_nil r7
  obtain rfl : args = #[v0, v1, v2, v3, v4, v5, v6, v7] := by cases args; simp_all
  obtain ⟨rfl, rfl⟩ := trodVars_none hV
  obtain ⟨a0, rfl, rfl, rfl⟩ := open_bool Yba.underlying4 (hval 0 4 v0 rfl rfl) h0
  obtain ⟨a1, rfl, rfl, rfl⟩ := open_bool Yba.underlying4 (hval 1 4 v1 rfl rfl) h1
  obtain ⟨a2, rfl, rfl, rfl⟩ := open_bool Yba.underlying4 (hval 2 4 v2 rfl rfl) h2
  obtain ⟨a3, rfl, rfl, rfl, w3⟩ := open_int Yba.underlying3 (hval 3 3 v3 rfl rfl) h3
  obtain ⟨a4, rfl, rfl, rfl, w4⟩ := open_string Yba.underlying9 (hval 4 9 v4 rfl rfl) h4
  obtain ⟨a5, len5, cap5, rfl⟩ := okWide_slice Yba.underlying22 (hval 5 22 v5 rfl rfl)
  have k5 := h5
  have lt5 : ∀ x ∈ p5, x.block < W.heap.size := by obtain ⟨m, hm⟩ := k5; exact DataW.trod_lt m _ _ _ hm
  obtain ⟨z5, w5⟩ : ∃ zs, IsRow .i64 W a5 len5 cap5 zs := by
    obtain ⟨fuel, hf⟩ := h5
    rcases open_ints Yba.underlying22 Yba.underlying3 (by kernel_rfl) hf with ⟨hcs, _⟩ | ⟨x, l, c, zs, hcs, _, hl, hm, hz, _, hcell, hwz⟩
    · simp [Value.cells] at hcs
      obtain ⟨rfl, rfl, rfl⟩ := hcs
      exact ⟨[], .inl ⟨rfl, rfl, rfl, rfl⟩⟩
    · simp [Value.cells] at hcs
      obtain ⟨rfl, rfl, rfl⟩ := hcs
      exact ⟨zs, .inr ⟨_, rfl, hl, hm, by simpa using hz, hcell, hwz⟩⟩
  obtain ⟨a6, len6, cap6, rfl⟩ := okWide_slice Yba.underlying23 (hval 6 23 v6 rfl rfl)
  have k6 := h6
  have lt6 : ∀ x ∈ p6, x.block < W.heap.size := by obtain ⟨m, hm⟩ := k6; exact DataW.trod_lt m _ _ _ hm
  obtain ⟨z6, w6⟩ : ∃ zs, IsRowS W a6 len6 cap6 zs := by
    obtain ⟨fuel, hf⟩ := h6
    rcases open_strings Yba.underlying23 Yba.underlying9 (by kernel_rfl) hf with ⟨hcs, _⟩ | ⟨x, l, c, zs, hcs, _, hl, hm, hz, _, hcell, hwz⟩
    · simp [Value.cells] at hcs
      obtain ⟨rfl, rfl, rfl⟩ := hcs
      exact ⟨[], .inl ⟨rfl, rfl, rfl, rfl⟩⟩
    · simp [Value.cells] at hcs
      obtain ⟨rfl, rfl, rfl⟩ := hcs
      exact ⟨zs, .inr ⟨_, rfl, hl, hm, by simpa using hz, hcell, hwz⟩⟩
  obtain ⟨a7, rfl, rfl, rfl, w7⟩ := open_int Yba.underlying3 (hval 7 3 v7 rfl rfl) h7
  clear hA0 hval0
  refine (walk a0 a1 a2 a3 a4 a5 len5 cap5 z5 a6 len6 cap6 z6 a7 W w5 w6).mono fun e W' ⟨he, bel⟩ => ?_
  subst he
  exact ⟨_, rfl, _, _, _, [], _, [], hW', trodAll_mk1 (shut_bool Yba.underlying4 _), (trodAll_cons_mk (shut_bool Yba.underlying4 _) (trodAll_cons_mk (shut_bool Yba.underlying4 _) (trodAll_cons_mk (shut_bool Yba.underlying4 _) (trodAll_cons_mk (shut_int Yba.underlying3 w3) (trodAll_cons_mk (shut_string Yba.underlying9 w4) (trodAll_cons_mk (Below.trod laidOut (by kernel_rfl) (of_decide_eq_true (by kernel_rfl)) k5 bel lt5) (trodAll_cons_mk (Below.trod laidOut (by kernel_rfl) (of_decide_eq_true (by kernel_rfl)) k6 bel lt6) (trodAll_cons_mk (shut_int Yba.underlying3 w7) trodAll_mk0)))))))), rfl, bel.frame _, fun h => by cases h⟩

theorem over : Rows.lawS3582CExactRow.holds Yba.pinned (OpenSpec.ofChange Rows.lawS3582CExactSpec) :=
  OpenClaim.holds_of_wide 3 Yba.f3 rfl rfl rfl rfl rfl rfl rfl ⟨rfl, rfl, rfl, rfl, rfl⟩ rfl rfl rfl rfl rfl (by kernel_rfl) Yba.func3 (by kernel_rfl)
    (of_decide_eq_true (by kernel_rfl)) (by unfold Func.isWrapper; first | (rw [if_pos (by decide +kernel)]; kernel_rfl) | (rw [if_neg (by decide +kernel)]; exact ⟨rfl, rfl⟩))
    (fun os started H enc _ => lifted os started H enc)

/-- ████ THE STATEMENT ████ -/
theorem proved : Rows.LawS3582CExactSaid := over
#print axioms proved
end Go.Proofs.Ybulkbvdu.lawS3582CExact

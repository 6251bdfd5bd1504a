/-
  Seat b3582aF: complete.
-/
import Derived.Test.YbulkbvduFmtT
namespace Go.Proofs.YbulkbvduFmt
open Go.RowKit

/-- No later one comes before an earlier one. -/
def Sorted (ms : List Nat) : Prop := ∀ (i j x y : Nat), i < j → ms[i]? = some x → ms[j]? = some y → ¬ before y x

/-- The three lists as complete sorts them. -/
structure Three (W : World) (b1 b2 R L c1 c2 : Nat) (ms1 ms2 ms3 : List Nat) : Prop where
  r1 : SetRow W b1 0 (fun b => b ≠ b1 ∧ b ≠ b2 ∧ b ≠ R) ms1
  r2 : SetRow W b2 0 (fun b => b ≠ b1 ∧ b ≠ b2 ∧ b ≠ R) ms2
  r3 : SetRow W R 0 (fun b => b ≠ b1 ∧ b ≠ b2 ∧ b ≠ R) ms3
  n12 : b1 ≠ b2
  n1R : b1 < R
  n2R : b2 < R
  nRL : R < L
  lL : L < W.heap.size
  l0 : W.cell? ⟨L, 0, none⟩ = some (.slice (some ⟨b1, 0, none⟩) ms1.length c1)
  l1 : W.cell? ⟨L, 1, none⟩ = some (.slice (some ⟨b2, 0, none⟩) ms2.length c2)
  l2 : W.cell? ⟨L, 2, none⟩ = some (.slice (some ⟨R, 0, none⟩) ms3.length ms3.length)

theorem Three.s1 {W W' : World} {b1 b2 R L c1 c2 : Nat} {ms1 ms2 ms3 ms' : List Nat} (h : Three W b1 b2 R L c1 c2 ms1 ms2 ms3) (hg : W.grownBy W' (some b1)) (hr : SetRow W' b1 0 (fun b => b ≠ b1 ∧ b ≠ b2 ∧ b ≠ R) ms') (hl : ms'.length = ms1.length) : Three W' b1 b2 R L c1 c2 ms' ms2 ms3 := by
  have h1 := h.n12; have h2 := h.n1R; have h3 := h.n2R; have h4 := h.nRL; have h5 := h.lL
  have hb : ∀ b, b < W.heap.size → b ≠ b1 → W'.heap[b]? = W.heap[b]? := fun b hb hne => hg.block b hb (by simpa using hne)
  exact ⟨hr, h.r2.keep hg.size (hb _ (by omega) (by omega)) (fun b hb' hd => hb b hb' hd.1), h.r3.keep hg.size (hb _ (by omega) (by omega)) (fun b hb' hd => hb b hb' hd.1), h1, h2, h3, h4, Nat.lt_of_lt_of_le h5 hg.size,
    by rw [hl]; exact (World.cell?_of_block (hb _ (by simpa using h5) (by simp; omega))).trans h.l0, (World.cell?_of_block (hb _ (by simpa using h5) (by simp; omega))).trans h.l1, (World.cell?_of_block (hb _ (by simpa using h5) (by simp; omega))).trans h.l2⟩
theorem Three.s2 {W W' : World} {b1 b2 R L c1 c2 : Nat} {ms1 ms2 ms3 ms' : List Nat} (h : Three W b1 b2 R L c1 c2 ms1 ms2 ms3) (hg : W.grownBy W' (some b2)) (hr : SetRow W' b2 0 (fun b => b ≠ b1 ∧ b ≠ b2 ∧ b ≠ R) ms') (hl : ms'.length = ms2.length) : Three W' b1 b2 R L c1 c2 ms1 ms' ms3 := by
  have h1 := h.n12; have h2 := h.n1R; have h3 := h.n2R; have h4 := h.nRL; have h5 := h.lL
  have hb : ∀ b, b < W.heap.size → b ≠ b2 → W'.heap[b]? = W.heap[b]? := fun b hb hne => hg.block b hb (by simpa using hne)
  exact ⟨h.r1.keep hg.size (hb _ (by omega) (by omega)) (fun b hb' hd => hb b hb' hd.2.1), hr, h.r3.keep hg.size (hb _ (by omega) (by omega)) (fun b hb' hd => hb b hb' hd.2.1), h1, h2, h3, h4, Nat.lt_of_lt_of_le h5 hg.size,
    (World.cell?_of_block (hb _ (by simpa using h5) (by simp; omega))).trans h.l0, by rw [hl]; exact (World.cell?_of_block (hb _ (by simpa using h5) (by simp; omega))).trans h.l1, (World.cell?_of_block (hb _ (by simpa using h5) (by simp; omega))).trans h.l2⟩
theorem Three.s3 {W W' : World} {b1 b2 R L c1 c2 : Nat} {ms1 ms2 ms3 ms' : List Nat} (h : Three W b1 b2 R L c1 c2 ms1 ms2 ms3) (hg : W.grownBy W' (some R)) (hr : SetRow W' R 0 (fun b => b ≠ b1 ∧ b ≠ b2 ∧ b ≠ R) ms') (hl : ms'.length = ms3.length) : Three W' b1 b2 R L c1 c2 ms1 ms2 ms' := by
  have h1 := h.n12; have h2 := h.n1R; have h3 := h.n2R; have h4 := h.nRL; have h5 := h.lL
  have hb : ∀ b, b < W.heap.size → b ≠ R → W'.heap[b]? = W.heap[b]? := fun b hb hne => hg.block b hb (by simpa using hne)
  exact ⟨h.r1.keep hg.size (hb _ (by omega) (by omega)) (fun b hb' hd => hb b hb' hd.2.2), h.r2.keep hg.size (hb _ (by omega) (by omega)) (fun b hb' hd => hb b hb' hd.2.2), hr, h1, h2, h3, h4, Nat.lt_of_lt_of_le h5 hg.size,
    (World.cell?_of_block (hb _ (by simpa using h5) (by simp; omega))).trans h.l0, (World.cell?_of_block (hb _ (by simpa using h5) (by simp; omega))).trans h.l1, by rw [hl]; exact (World.cell?_of_block (hb _ (by simpa using h5) (by simp; omega))).trans h.l2⟩

set_option maxHeartbeats 4000000 in
set_option maxRecDepth 10000 in
theorem complete_any (base pb pc n b1 b2 c1 c2 : Nat) (ms1 ms2 : List Nat) (ps : List Value) (hn : 1 ≤ n) (hn12 : n ≤ 12) (w : World) (hb1 : base ≤ b1) (hb2 : base ≤ b2) (hlt1 : b1 < w.heap.size) (hlt2 : b2 < w.heap.size) (h12 : b1 ≠ b2)
    (hpl : ps.length = n) (hp : ∀ (i : Nat) (u : Value), ps[i]? = some u → w.cell? ⟨pb, 0 + i, none⟩ = some u) (hp1 : ∀ u ∈ ps, u.oneCell' = true) (hpb : pb < base) (hm1 : 0 < ms1.length) (hm1' : ms1.length ≤ 4096) (hm2 : 0 < ms2.length) (hm2' : ms2.length ≤ 4096)
    (h1 : SetRow w b1 0 (fun b => b ≠ b1 ∧ b ≠ b2) ms1) (h2 : SetRow w b2 0 (fun b => b ≠ b1 ∧ b ≠ b2) ms2) :
    Calls Ybaf.prog 13 #[.slice (some ⟨pb, 0, none⟩) n pc, .slice (some ⟨b1, 0, none⟩) ms1.length c1, .slice (some ⟨b2, 0, none⟩) ms2.length c2] w fun e w' =>
      ∃ (q qc qp : Nat) (ms1' ms2' : List Nat), e = .returned (.pointer (some ⟨q, 0, none⟩)) ∧ base ≤ q ∧ w'.cell? ⟨q, 0, none⟩ = some (.slice (some ⟨qp, 0, none⟩) n qc) ∧ w'.cell? ⟨q, 1, none⟩ = some (.slice (some ⟨b1, 0, none⟩) ms1.length c1) ∧ w'.cell? ⟨q, 2, none⟩ = some (.slice (some ⟨b2, 0, none⟩) ms2.length c2) ∧
        ms1'.Perm ms1 ∧ Sorted ms1' ∧ ms2'.Perm ms2 ∧ SetRow w' b1 0 (fun b => b ≠ b1 ∧ b ≠ b2) ms1' ∧ SetRow w' b2 0 (fun b => b ≠ b1 ∧ b ≠ b2) ms2' ∧ Below base w w' := by
  have HC : Hid _ := fun (_ : Unit) => comps_any b2 0 c2 n ms2 hn hn12 w _ h2 hm2' hlt2
  have H1 : Hid (SetRow w b1 0 (fun b => b ≠ b1 ∧ b ≠ b2) ms1) := h1
  have H2 : Hid (SetRow w b2 0 (fun b => b ≠ b1 ∧ b ≠ b2) ms2) := h2
  clear h1 h2
  obtain ⟨m1, hM1⟩ : ∃ m, m = ms1.length := ⟨_, rfl⟩
  obtain ⟨m2, hM2⟩ : ∃ m, m = ms2.length := ⟨_, rfl⟩
  rw [← hM1, ← hM2]
  rw [← hM2] at HC
  have HM1 : Hid _ := hM1
  have HM2 : Hid _ := hM2
  have HPC : Hid _ := hp
  have HP1 : Hid _ := hp1
  clear hM1 hM2 hp hp1
  go_enter Ybaf.func13, Ybaf.ntmps13
  go_wp2_with (go_at_call 20; refine (HC.out ()).mono ?_; rintro e W1 ⟨ms3, rfl, hl3, h3, hw1⟩)
  have hsz1 := hw1.size
  obtain ⟨R, hR⟩ : ∃ R, R = w.heap.size := ⟨_, rfl⟩
  obtain ⟨L, hL⟩ : ∃ L, L = W1.heap.size := ⟨_, rfl⟩
  obtain ⟨W2, hW2⟩ : ∃ W2, W2 = W1.alloc (.cells #[.slice (some ⟨b1, 0, none⟩) m1 c1, .slice (some ⟨b2, 0, none⟩) m2 c2, .slice (some ⟨w.heap.size, 0, none⟩) m2 m2] 47) := ⟨_, rfl⟩
  have hw2 : Below W1.heap.size W1 W2 := by rw [hW2]; exact (Below.refl _ _).alloc (Nat.le_refl _) _
  have hRW1 : w.heap.size < W1.heap.size := by
    obtain ⟨_, _, _, c, _⟩ := h3 0 (ms3[0]'(by have := HM2.out; omega)) (List.getElem?_eq_getElem _)
    exact World.block_lt_of_cell? _ _ c
  have T0 : Three W2 b1 b2 R L c1 c2 ms1 ms2 ms3 := by
    refine ⟨?_, ?_, ?_, h12, by omega, by omega, by omega, by rw [hW2, hL]; simp, ?_, ?_, ?_⟩
    · refine ((SetRow.later (SetRow.mono H1.out (fun b hb hd => (?_ : b ≠ b1 ∧ b ≠ b2 ∧ b ≠ R))) hlt1 hw1).later (by omega) hw2)
      exact ⟨hd.1, hd.2, by omega⟩
    · refine ((SetRow.later (SetRow.mono H2.out (fun b hb hd => (?_ : b ≠ b1 ∧ b ≠ b2 ∧ b ≠ R))) hlt2 hw1).later (by omega) hw2)
      exact ⟨hd.1, hd.2, by omega⟩
    · rw [hR]
      exact (SetRow.later (SetRow.mono h3 (fun b hb hd => ⟨by omega, by omega, by omega⟩)) hRW1 hw2)
    · rw [hW2, hL, ← HM1.out]; go_simp
    · rw [hW2, hL, ← HM2.out]; go_simp
    · rw [hW2, hL, hR, hl3]; go_simp
  have hBw : Below base w W2 := (hw1.mono (by omega)).trans (hw2.mono (by omega))
  have hbW2 : w.heap.size ≤ W2.heap.size := by have := hw2.size; omega
  rw [← hW2, ← hR, ← hL]
  have HR : Hid _ := hR
  have HBw : Hid _ := hBw
  clear hW2 hR hL hw2 h3 hw1 hsz1 HC hBw
  have hM1 := HM1.out
  have hM2 := HM2.out
  have HT0 : Hid _ := T0
  have q0 := T0.l0; have q1 := T0.l1; have q2 := T0.l2
  rw [← hM1] at q0; rw [← hM2] at q1; rw [hl3] at q2
  have hL0 := T0.lL
  clear T0 hM1 hM2
  have S1 : Hid _ := fun (_ : Unit) => sort_any b1 0 c1 _ (fun h => h.1 rfl) ms1 W2 HT0.out.r1 (by have h1 := HT0.out.n1R; have h2 := HT0.out.nRL; omega) (by omega)
  rw [← HM1.out] at S1
  refine wp_loop_rounds 4 ?_
  rw [rounds_succ]
  go_wp2_with (go_at_call 21; refine (S1.out ()).mono ?_; rintro e W3 ⟨rfl, ms1', hp1, hs1, hr1, hg1⟩)
  have T1 : Three W3 b1 b2 R L c1 c2 ms1' ms2 ms3 := HT0.out.s1 hg1 hr1 hp1.length_eq
  have HT1 : Hid (Three W3 b1 b2 R L c1 c2 ms1' ms2 ms3) := T1
  have HBw1 : Hid (Below base w W3) := HBw.out.grown hg1 (by omega) (fun k e => by cases e; exact hb1)
  have hbW3 : w.heap.size ≤ W3.heap.size := by have := hg1.size; omega
  have HS1 : Hid (ms1'.Perm ms1 ∧ Sorted ms1') := ⟨hp1, hs1⟩
  have q3 := T1.l0; have q4 := T1.l1; have q5 := T1.l2
  rw [hp1.length_eq, ← HM1.out] at q3; rw [← HM2.out] at q4; rw [hl3] at q5
  clear T1 hg1 hr1 hp1 hs1 q0 q1 q2 hL0 HT0 HBw hbW2 S1
  have hL1 := HT1.out.lL
  have S2 : Hid _ := fun (_ : Unit) => sort_any b2 0 c2 _ (fun h => h.2.1 rfl) ms2 W3 HT1.out.r2 (by have h1 := HT1.out.n2R; have h2 := HT1.out.nRL; omega) (by omega)
  rw [← HM2.out] at S2
  rw [rounds_succ]
  go_wp2_with (go_at_call 21; refine (S2.out ()).mono ?_; rintro e W4 ⟨rfl, ms2', hp2, hs2, hr2, hg2⟩)
  have T2 : Three W4 b1 b2 R L c1 c2 ms1' ms2' ms3 := HT1.out.s2 hg2 hr2 hp2.length_eq
  have HT2 : Hid (Three W4 b1 b2 R L c1 c2 ms1' ms2' ms3) := T2
  have HBw2 : Hid (Below base w W4) := HBw1.out.grown hg2 (by omega) (fun k e => by cases e; exact hb2)
  have hbW4 : w.heap.size ≤ W4.heap.size := by have := hg2.size; omega
  have HS2 : Hid (ms2'.Perm ms2) := hp2
  have q6 := T2.l0; have q7 := T2.l1; have q8 := T2.l2
  rw [HS1.out.1.length_eq, ← HM1.out] at q6; rw [hp2.length_eq, ← HM2.out] at q7; rw [hl3] at q8
  clear T2 hg2 hr2 hp2 hs2 q3 q4 q5 hL1 HT1 HBw1 hbW3 S2
  have hL2 := HT2.out.lL
  have S3 : Hid _ := fun (_ : Unit) => sort_any R 0 m2 _ (fun h => h.2.2 rfl) ms3 W4 HT2.out.r3 (by have h2 := HT2.out.nRL; omega) (by have := HM2.out; omega)
  rw [hl3] at S3
  rw [rounds_succ]
  go_wp2_with (go_at_call 21; refine (S3.out ()).mono ?_; rintro e W5 ⟨rfl, ms3', hp3, hs3, hr3, hg3⟩)
  have T3 : Three W5 b1 b2 R L c1 c2 ms1' ms2' ms3' := HT2.out.s3 hg3 hr3 hp3.length_eq
  have HT3 : Hid (Three W5 b1 b2 R L c1 c2 ms1' ms2' ms3') := T3
  have HBw3 : Hid (Below base w W5) := HBw2.out.grown hg3 (by omega) (fun k e => by cases e; have := HR.out; omega)
  have hbW5 : w.heap.size ≤ W5.heap.size := by have := hg3.size; omega
  clear T3 hg3 hr3 hp3 hs3 q6 q7 q8 hL2 HT2 HBw2 hbW4 S3
  have hL3 := HT3.out.lL
  have HCl : Hid _ := fun (_ : Unit) => clone_str pb 0 pc n ps W5 (by omega) (by omega) hpl (fun i u hu => by rw [HBw3.out.cell (by simpa using hpb)]; exact HPC.out i u hu) HP1.out
  rw [rounds_succ]
  go_wp2_with (go_at_call 23; refine (HCl.out ()).mono ?_; rintro e W6 ⟨qp, qc, rfl, hb6⟩)
  go_ret
  have h6 := hb6.size
  have hbel : Below base w (W6.alloc (.cells #[.slice (some ⟨qp, 0, none⟩) n qc, .slice (some ⟨b1, 0, none⟩) m1 c1, .slice (some ⟨b2, 0, none⟩) m2 c2, .slice (some ⟨R, 0, none⟩) m2 m2] 53)) :=
    (HBw3.out.trans (hb6.mono (by omega))).alloc (by omega) _
  have hbe5 : Below W5.heap.size W5 (W6.alloc (.cells #[.slice (some ⟨qp, 0, none⟩) n qc, .slice (some ⟨b1, 0, none⟩) m1 c1, .slice (some ⟨b2, 0, none⟩) m2 c2, .slice (some ⟨R, 0, none⟩) m2 m2] 53)) := hb6.alloc h6 _
  have k1 := HT3.out.n1R
  have k2 := HT3.out.n2R
  have k3 := HT3.out.nRL
  refine ⟨W6.heap.size, qc, qp, ms1', ms2', rfl, by omega, by go_simp, by go_simp, by go_simp, HS1.out.1, HS1.out.2, HS2.out, ?_, ?_, hbel⟩
  · exact (HT3.out.r1.later (by omega) hbe5).mono (fun b _ hd => ⟨hd.1, hd.2.1⟩)
  · exact (HT3.out.r2.later (by omega) hbe5).mono (fun b _ hd => ⟨hd.1, hd.2.1⟩)

end Go.Proofs.YbulkbvduFmt

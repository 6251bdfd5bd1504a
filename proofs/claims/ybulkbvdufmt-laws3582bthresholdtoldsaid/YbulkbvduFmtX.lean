/-
  Seat b3582aF: ThresholdProfile.
-/
import Derived.Test.YbulkbvduFmtH
import Derived.Test.YbulkbvduFmtO
import Derived.Test.YbulkbvduFmtU
import Derived.Test.YbulkbvduFmtV
namespace Go.Proofs.YbulkbvduFmt
open Go.RowKit

theorem count_any (n j lim : Nat) (hj : j ≤ n) (hn : n ≤ 12) (hlim : 924 ≤ lim) (hl2 : lim ≤ 10000000) (w : World) :
    Calls Ybaf.prog 10 #[.int .i64 (n : Nat), .int .i64 (j : Nat), .int .i64 (lim : Nat)] w fun e w' => (∃ c : Nat, c ≤ 924 ∧ e = .returned (.int .i64 (c : Int))) ∧ w' = w := by
  by_cases h : 2 * j ≤ n
  · exact count_small n j lim h hn hlim hl2 j (.inl rfl) w
  · exact count_small n (n - j) lim (by omega) hn hlim hl2 j (.inr (by omega)) w

theorem Sets.row {W : World} {base : Nat} {v : Value} {ms : List Nat} (h : Sets W base v ms) (hne : ms ≠ []) (hx : ∀ x ∈ ms, 0 < x ∧ x < 4096) :
    ∃ gb cap, v = .slice (some ⟨gb, 0, none⟩) ms.length cap ∧ base ≤ gb ∧ gb < W.heap.size ∧ SetRow W gb 0 (fun b => b ≠ gb ∧ base ≤ b) ms := by
  obtain ⟨vs, h1, h2⟩ := h
  rcases h1.2 with ⟨_, h0⟩ | ⟨gb, cap, cur, rfl, hge, hgb, _, _, _, htk⟩
  · exact absurd (List.eq_nil_of_length_eq_zero h0) hne
  · refine ⟨gb, cap, rfl, hge, (Array.getElem?_eq_some_iff.1 hgb).1, fun i x hi => ?_⟩
    obtain ⟨g, cp, a, b, c, d⟩ := h2 i x hi
    have hil : i < ms.length := (List.getElem?_eq_some_iff.1 hi).1
    have hxx := hx x (List.mem_of_getElem? hi)
    have hg := World.block_lt_of_cell? _ _ d
    refine ⟨_, 1, cp, ?_, by simp [World.frozen?, hgb], .inr ⟨rfl, by omega, by omega, g, 0, rfl, d⟩, fun q hq => ?_⟩
    · rw [Nat.zero_add, cell_of_row W gb i cur 51 _ hgb]
      have e2 := congrArg (fun l : List Value => l[i]?) htk
      simp only [Nat.mul_one, a] at e2
      rw [List.getElem?_take, if_pos hil] at e2
      simpa using e2
    · cases hq
      exact ⟨⟨by simpa [Value.ownBlock] using c, b⟩, hg⟩

theorem mask_range {n k : Nat} {f : Nat → Nat} (hk : 1 ≤ k) (hkn : k ≤ n) (hn : n ≤ 12) (h : Asc n k f) : 0 < mask f k ∧ mask f k < 4096 :=
  ⟨mask_pos f k (by omega), mask_lt f k 12 h.1 (fun j hj => by have := h.2 j hj; omega)⟩

/-- The sorted cores: the first is the mask of 0 .. t. -/
theorem least2 : ∀ a b : Fin 64, before (2 ^ pop 12 (64 * a.val + b.val) - 1) (64 * a.val + b.val) ∨ 64 * a.val + b.val = 2 ^ pop 12 (64 * a.val + b.val) - 1 := by
  unfold before
  decide +kernel
theorem least (x k : Nat) (hx : x < 4096) (hp : pop 12 x = k) : before (2 ^ k - 1) x ∨ x = 2 ^ k - 1 := by
  have := least2 ⟨x / 64, by omega⟩ ⟨x % 64, by omega⟩
  have e : 64 * (x / 64) + x % 64 = x := by omega
  simp only [e, hp] at this
  exact this

theorem first_least {n k : Nat} (hk : 1 ≤ k) (hkn : k ≤ n) (hn : n ≤ 12) (fs : List (Nat → Nat)) (hne : fs ≠ []) (hall : ∀ f ∈ fs, Asc n k f) (hhead : ∀ f, fs.head? = some f → ∀ j, j < k → f j = j) (ms : List Nat) (hp : ms.Perm (fs.map fun f => mask f k)) (hs : Sorted ms) : ms[0]? = some (2 ^ k - 1) := by
  obtain ⟨f, r, rfl⟩ := List.exists_cons_of_ne_nil hne
  have hm : mask f k = 2 ^ k - 1 := by have := mask_id f k (hhead f rfl); omega
  have hin : 2 ^ k - 1 ∈ ms := hp.mem_iff.2 (by rw [← hm]; simp)
  obtain ⟨i, hi⟩ := List.getElem?_of_mem hin
  have hl : 0 < ms.length := List.length_pos_of_mem hin
  obtain ⟨x, hx⟩ : ∃ x, ms[0]? = some x := ⟨_, List.getElem?_eq_getElem hl⟩
  obtain ⟨f', hf', rfl⟩ := List.mem_map.1 (hp.mem_iff.1 (List.mem_of_getElem? hx))
  have ha := hall f' hf'
  have hpop := mask_pop f' k ha.1 (fun j hj => by have := ha.2 j hj; omega)
  rcases least _ k (mask_range hk hkn hn ha).2 hpop with h | h
  · by_cases h0 : i = 0
    · subst h0; exact hi
    · exact absurd h (hs 0 i _ _ (by omega) hx hi)
  · rw [hx, h]

/-- What ThresholdProfile hands back. -/
def Prof (W : World) (lo q n t : Nat) : Prop :=
  ∃ (qp qc b1 c1 b2 c2 : Nat) (ms1 ms2 : List Nat), lo ≤ q ∧ W.cell? ⟨q, 0, none⟩ = some (.slice (some ⟨qp, 0, none⟩) n qc) ∧ W.cell? ⟨q, 1, none⟩ = some (.slice (some ⟨b1, 0, none⟩) ms1.length c1) ∧ W.cell? ⟨q, 2, none⟩ = some (.slice (some ⟨b2, 0, none⟩) ms2.length c2) ∧
    ms1[0]? = some (2 ^ (t + 1) - 1) ∧ ms1.length ≤ 4096 ∧ 0 < ms2.length ∧ ms2.length ≤ 4096 ∧ b1 < W.heap.size ∧ b2 < W.heap.size ∧ SetRow W b1 0 (fun b => b ≠ b1 ∧ b ≠ b2) ms1 ∧ SetRow W b2 0 (fun b => b ≠ b1 ∧ b ≠ b2) ms2

set_option maxHeartbeats 4000000 in
set_option maxRecDepth 10000 in
theorem thr_any (pb pc n t : Nat) (hn : 1 ≤ n) (hn12 : n ≤ 12) (ht : t < n) (w : World) (hpb : pb < w.heap.size) (hp : ∀ j, j < n → w.cell? ⟨pb, j, none⟩ = some (.string (nm j))) :
    Calls Ybaf.prog 4 #[.slice (some ⟨pb, 0, none⟩) n pc, .int .i64 (t : Nat)] w fun e w' => ∃ q, e = .returned (.tuple #[.pointer (some ⟨q, 0, none⟩), .nilIface]) ∧ Prof w' w.heap.size q n t ∧ Below w.heap.size w w' := by
  have hlim1 : 924 ≤ 10000000 / n := (Nat.le_div_iff_mul_le (by omega)).2 (by omega)
  have hlim2 : 10000000 / n ≤ 10000000 := Nat.div_le_self _ _
  obtain ⟨lim, hlim⟩ : ∃ lim, lim = 10000000 / n := ⟨_, rfl⟩
  have HX : Hid _ := fun (_ : Unit) => index_any pb pc n hn hn12 w hp
  have HMx : Hid _ := fun (W : World) => maxSets_any n hn hn12 W
  rw [← hlim] at HMx hlim1 hlim2
  have HC1 : Hid _ := fun (W : World) => count_any n (t + 1) lim (by omega) hn12 hlim1 hlim2 W
  have HC2 : Hid _ := fun (W : World) => count_any n (n - t) lim (by omega) hn12 hlim1 hlim2 W
  have HK1 : Hid _ := fun (W : World) => comb_any n (t + 1) (by omega) (by omega) hn12 W
  have HK2 : Hid _ := fun (W : World) => comb_any n (n - t) (by omega) (by omega) hn12 W
  have HP : Hid _ := hp
  have e1 : ((t + 1 : Nat) : Int) = (t : Int) + 1 := by omega
  have e2 : ((n - t : Nat) : Int) = (n : Int) - t := by omega
  rw [e1] at HC1 HK1
  rw [e2] at HC2 HK2
  have ht0 : ¬ ((t : Nat) : Int) < 0 := by omega
  have htn : ¬ ((n : Nat) : Int) ≤ (t : Nat) := by omega
  clear hlim hp e1 e2
  go_enter Ybaf.func4, Ybaf.ntmps4
  go_wp2_with (first
    | (go_at_call 7; refine (HX.out ()).mono ?_; rintro e W1 ⟨⟨v, rfl⟩, hw1⟩)
    | (go_at_call 9; refine (HMx.out _).mono ?_; rintro e w' ⟨rfl, rfl⟩))
  refine (HC1.out _).mono ?_
  rintro e w2 ⟨⟨cA, hcA, rfl⟩, rfl⟩
  have hA : ¬ ((lim : Nat) : Int) < (cA : Nat) := by omega
  go_wp2_with fail
  refine (HC2.out _).mono ?_
  rintro e w3 ⟨⟨cB, hcB, rfl⟩, rfl⟩
  have hB : ¬ ((lim : Nat) : Int) < (cB : Nat) := by omega
  go_wp2_with fail
  refine (HK1.out _).mono ?_
  rintro e W2 ⟨v1, fs1, rfl, hne1, hl1, hall1, hhd1, hset1, hb1⟩
  go_wp2_with fail
  refine (HK2.out _).mono ?_
  rintro e W3 ⟨v2, fs2, rfl, hne2, hl2, hall2, _, hset2, hb2⟩
  clear HX HMx HC1 HC2 HK1 HK2
  obtain ⟨b1, c1, rfl, hg1, hlt1, hr1⟩ := hset1.row (by simpa using hne1) (fun x hx => by
    obtain ⟨f, hf, rfl⟩ := List.mem_map.1 hx; exact mask_range (by omega) (by omega) hn12 (hall1 f hf))
  obtain ⟨b2, c2, rfl, hg2, hlt2, hr2⟩ := hset2.row (by simpa using hne2) (fun x hx => by
    obtain ⟨f, hf, rfl⟩ := List.mem_map.1 hx; exact mask_range (by omega) (by omega) hn12 (hall2 f hf))
  have hs1 := hw1.size
  have hs2 := hb1.size
  have hs3 := hb2.size
  have hbw : Below w.heap.size w W3 := (hw1.trans (hb1.mono hs1)).trans (hb2.mono (by omega))
  have hrow1 : SetRow W3 b1 0 (fun b => b ≠ b1 ∧ b ≠ b2) (fs1.map fun f => mask f (t + 1)) := SetRow.later (SetRow.mono hr1 (fun b hb hd => ⟨hd.1, by omega⟩)) hlt1 hb2
  have hrow2 : SetRow W3 b2 0 (fun b => b ≠ b1 ∧ b ≠ b2) (fs2.map fun f => mask f (n - t)) := SetRow.mono hr2 (fun b hb hd => ⟨by omega, hd.1⟩)
  have hpl1 : 0 < (fs1.map fun f => mask f (t + 1)).length := by rw [List.length_map]; exact List.length_pos_iff.2 hne1
  have hpl2 : 0 < (fs2.map fun f => mask f (n - t)).length := by rw [List.length_map]; exact List.length_pos_iff.2 hne2
  have hco := complete_any w.heap.size pb pc n b1 b2 c1 c2 (fs1.map fun f => mask f (t + 1)) (fs2.map fun f => mask f (n - t)) ((List.range n).map fun j => .string (nm j)) hn hn12 W3 (by omega) (by omega) (by omega) hlt2 (by omega) (by simp)
    (fun i u hu => by
      have hi : i < n := by have := (List.getElem?_eq_some_iff.1 hu).1; simpa using this
      have hu' : Value.string (nm i) = u := by simpa [hi] using hu
      rw [← hu', hbw.cell (by simpa using hpb), Nat.zero_add]
      exact HP.out i hi)
    (fun u hu => by obtain ⟨j, _, rfl⟩ := List.mem_map.1 hu; rfl) hpb hpl1 (by simpa using hl1) hpl2 (by simpa using hl2) hrow1 hrow2
  have HF : Hid _ := fun (ms : List Nat) => first_least (n := n) (k := t + 1) (by omega) (by omega) hn12 fs1 hne1 hall1 hhd1 ms
  have HL1 : Hid ((fs1.map fun f => mask f (t + 1)).length ≤ 4096) := by show _ ≤ _; simpa using hl1
  have HL2 : Hid ((fs2.map fun f => mask f (n - t)).length ≤ 4096) := by show _ ≤ _; simpa using hl2
  generalize hM1 : (fs1.map fun f => mask f (t + 1)) = ms1 at hco HF HL1 hpl1 ⊢
  generalize hM2 : (fs2.map fun f => mask f (n - t)) = ms2 at hco HL2 hpl2 ⊢
  have HCo : Hid _ := fun (_ : Unit) => hco
  have HBW : Hid _ := hbw
  have hb12 : b1 < W3.heap.size := by omega
  clear hco hrow1 hrow2 hr1 hr2 hset1 hset2 hbw hM1 hM2 hall1 hall2 hhd1 hl1 hl2 hne1 hne2
  go_wp2_with (go_at_call 13; refine (HCo.out ()).mono ?_; rintro e W4 ⟨q, qc, qp, ms1', ms2', rfl, hq, k0, k1, k2, hp1, hs1, hp2, r1, r2, hb4⟩)
  go_ret2
  have hz4 := hb4.size
  refine ⟨q, rfl, ⟨qp, qc, b1, c1, b2, c2, ms1', ms2', hq, k0, by rw [hp1.length_eq]; exact k1, by rw [hp2.length_eq]; exact k2, HF.out ms1' hp1 hs1, by rw [hp1.length_eq]; exact HL1.out, by rw [hp2.length_eq]; exact hpl2, by rw [hp2.length_eq]; exact HL2.out, by omega, by omega, r1, r2⟩, HBW.out.trans hb4⟩

end Go.Proofs.YbulkbvduFmt

/-
  Seat b3582aF: the iterator of choicesIn.
-/
import Derived.RangeFuncNested
import Derived.RangeFuncBound
import Derived.RangeFuncCalls
import Derived.RangeFuncLeaves
import Derived.Shelf.Abstract
import Derived.OwnWalkIn
import Derived.TacticsInMore
import Derived.LoopNIn
import Derived.LoopIn
import Derived.Test.YbulkbvduFmtJ
import Derived.Test.YbulkbvduFmtK
namespace Go.Proofs.YbulkbvduFmt
open Go.RowKit Go.Shelf

attribute [local go_sem] Oper.semAt_some

/-- The positions as they lie. -/
def Pos (Bs k : Nat) (f : Nat → Nat) (W : World) : Prop := ∀ j, j < k → W.cell? ⟨Bs, j, none⟩ = some (.int .i64 (f j : Nat))
/-- What the iterator has captured. -/
def Cap (Bs Bp Bn n k : Nat) (W : World) : Prop :=
  W.cell? ⟨Bp, 0, none⟩ = some (.slice (some ⟨Bs, 0, none⟩) k k) ∧ W.cell? ⟨Bn, 0, none⟩ = some (.int .i64 (n : Nat)) ∧ ∀ j, j < k → (∃ v, W.cell? ⟨Bs, j, none⟩ = some (.int .i64 v)) ∧ W.frozen? ⟨Bs, j, none⟩ = false
/-- What is said at each call of yield. -/
def Xs (Bs n k : Nat) (pre : List (Nat → Nat)) (f : Nat → Nat) (W : World) : Prop := Pos Bs k f W ∧ Asc n k f ∧ pre.length + rev f k ≤ 4096 ∧ (pre = [] → ∀ j, j < k → f j = j)

/-- The position that lies at j. -/
def rd (Bs : Nat) (W : World) (j : Nat) : Nat := match W.cell? ⟨Bs, j, none⟩ with | some (.int _ v) => v.toNat | _ => 0
theorem rev_rd {Bs k : Nat} {f : Nat → Nat} {W : World} (h : Pos Bs k f W) : rev (rd Bs W) k = rev f k :=
  rev_congr _ _ k fun j hj => by simp [rd, h j hj]

abbrev encP (Bs k : Nat) (_ : Nat → Nat) : Array Value := #[.slice (some ⟨Bs, 0, none⟩) k k]

set_option maxRecDepth 100000 in
set_option maxHeartbeats 4000000 in
theorem choices_gives (m Bs Bp Bn n k : Nat) (hm : 1 ≤ m) (hk : 1 ≤ k) (hkn : k ≤ n) (hn : n ≤ 12) (I : List (Nat → Nat) → World → Prop)
    (hI1 : ∀ pre W, I pre W → Cap Bs Bp Bn n k W) (hI2 : ∀ pre W j v, I pre W → j < k → I pre (W.setCell ⟨Bs, j, none⟩ (.int .i64 v))) (hI3 : ∀ pre W d, I pre W → I pre (W.drewN d)) :
    Gives Fence.wide m Ybaf.prog 54 #[.pointer (some ⟨Bp, 0, none⟩), .pointer (some ⟨Bn, 0, none⟩)] (encP Bs k) I (Xs Bs n k) (fun xs => xs ≠ []) := by
  intro l J W hJ hJI hY h0
  have set : ∀ pre A j v, J pre A → j < k → J pre (A.setCell ⟨Bs, j, none⟩ (.int .i64 v)) := fun pre A j v h hj => hJ pre A _ h (hI2 pre A j v (hJI _ _ h) hj) (KeepsOthers.setCell _ _ _)
  have dr : ∀ pre A d, J pre A → J pre (A.drewN d) := fun pre A d h => hJ pre A _ h (hI3 pre A d (hJI _ _ h)) ⟨Nat.le_refl _, fun _ _ h _ => h⟩
  have cp : ∀ pre A, J pre A → Cap Bs Bp Bn n k A := fun pre A h => hI1 pre A (hJI _ _ h)
  have SET : Hid _ := set
  have DR : Hid _ := dr
  have CP : Hid _ := cp
  have HY : Hid _ := hY
  clear set dr cp hJ hJI hI1 hI2 hI3 hY
  obtain ⟨k0, k1, k2⟩ := CP.out _ _ h0
  have K2 : Hid _ := k2
  clear k2
  refine callsIn_of_wp Ybaf.func54 rfl trivial ?_ rfl
  simp only [Ybaf.ntmps54, List.size_toArray, List.length_cons, List.length_nil, Nat.reduceAdd, Nat.reduceSub, Array.replicate_succ, Array.replicate_zero, List.push_toArray, List.append_toArray, List.nil_append, List.cons_append]
  refine wpIn_wide.2 ?_
  go_wp2_with fail
  clear k0 k1 K2
  go_loopw [12] (fun c wr => ∃ j : Nat, j ≤ k ∧ c = .int .i64 (j : Nat) ∧ J [] wr ∧ Pos Bs j id wr) (fun c _ => k - (intOf c).toNat)
  case atStart => exact ⟨0, by omega, rfl, h0, fun j hj => by omega⟩
  case round =>
    obtain ⟨j, hj, rfl, hJ0, hP⟩ := hrel
    obtain ⟨k0, k1, k2⟩ := CP.out _ _ hJ0
    have HP : Hid _ := hP
    clear hP
    by_cases hjk : j < k
    · obtain ⟨⟨v, hv⟩, hf⟩ := k2 j hjk
      have K2 : Hid _ := k2
      have hlt : ((j : Nat) : Int) < (k : Nat) := by omega
      clear k2
      go_wp2_with fail
      refine ⟨⟨j + 1, by omega, by simp, SET.out _ _ _ _ hJ0 hjk, fun i hi => ?_⟩, by simp [intOf]; omega⟩
      by_cases e : i = j
      · subst e; exact World.cell?_setCell_same' _ _ _ (by rw [hv]; rfl)
      · rw [World.cell?_setCell_other _ _ _ _ (by intro h; exact e (congrArg Addr.off h).symm)]; exact HP.out i (by omega)
    · obtain rfl : j = k := by omega
      have hlt : ¬ ((j : Nat) : Int) < (j : Nat) := by omega
      clear k0 k1 k2
      go_upto_region 6 with fail
      refine (wpIn_wide (n := m)).1 ?_
      gi_loopw [6] (fun _ wr => ∃ pre f, J pre wr ∧ Xs Bs n j pre f wr) (fun _ wr => rev (rd Bs wr) j)
      case atStart => exact ⟨[], id, hJ0, HP.out, ⟨fun q _ => Nat.lt_succ_self q, fun q _ => by simp⟩, by have := rev_bound id j (fun _ _ => rfl) (by omega); simp only [List.length_nil]; exact Nat.le_trans (by omega) (Nat.le_trans (Nat.le_add_right _ _) this), fun _ _ _ => rfl⟩
      case round =>
        obtain ⟨pre, f, hJf, hX⟩ := hrel
        obtain ⟨k0, k1, k2⟩ := CP.out _ _ hJf
        obtain ⟨fn, tmps, assign, body, hy, hR⟩ := HY.out pre f wr hJf hX
        have HM : Hid _ := rev_rd hX.1
        clear k1 k2 hX
        gi_wp2
        refine hR.mono ?_
        rintro e W3 ⟨rfl, hJ3, hP3, hA3, hl3, _⟩
        clear hR hy k0 hJf
        gi_wp2
        refine wpIn_wide.2 ?_
        have HP3 : Hid _ := hP3
        have HA3 : Hid _ := hA3
        have HL3 : Hid _ := hl3
        clear hP3 hA3 hl3
        go_loopw [6] (fun c wr => (c = .int .i64 (-1) ∨ ∃ q : Nat, q < j ∧ c = .int .i64 (q : Nat)) ∧ J (pre ++ [f]) wr ∧ Pos Bs j f wr) (fun c _ => (intOf c + 1).toNat)
        case atStart => exact ⟨.inr ⟨j - 1, by omega, by go_num⟩, hJ3, HP3.out⟩
        case round =>
          obtain ⟨hc, hJq, hPq⟩ := hrel
          have HPq : Hid _ := hPq
          clear hPq
          obtain ⟨k0, k1, k2⟩ := CP.out _ _ hJq
          rcases hc with rfl | ⟨q, hq, rfl⟩
          · clear k2
            go_wp2_with fail
            go_quiet (fail)
            go_wp2_with fail
            gi_wp2
            exact bodyPost_ret (results_none rfl _ _ _) rfl ⟨⟨_, rfl⟩, pre ++ [f], by simp, DR.out _ _ _ hJq⟩
          · have hcq : wr.cell? ⟨Bs, q, none⟩ = some (.int .i64 (f q : Nat)) := HPq.out q hq
            have hlt : ((q : Nat) : Int) < (j : Nat) := by omega
            have hge : (0 : Int) ≤ (q : Nat) := by omega
            have hfq := HA3.out.2 q hq
            have hwr : (n : Int) - j + q = ((n - j + q : Nat) : Int) := by omega
            have hw1 : 0 ≤ (n : Int) - j ∧ (n : Int) - j ≤ 12 := by omega
            obtain ⟨_, hfz⟩ := k2 q hq
            clear k2
            by_cases he : f q = n - j + q
            · have hd : decide (((f q : Nat) : Int) = (n : Int) - j + q) = true := by rw [he, hwr]; simp
              go_wp2_with fail
              go_quiet (fail)
              go_wp2_with fail
              refine ⟨⟨?_, DR.out _ _ _ hJq, HPq.out⟩, by simp [intOf]⟩
              by_cases h0 : q = 0
              · left; subst h0; rfl
              · right; exact ⟨q - 1, by omega, by congr 1; omega⟩
            · have hd : decide (((f q : Nat) : Int) = (n : Int) - j + q) = false := by rw [hwr]; simp; omega
              have hne : ¬ ((f q : Nat) : Int) = (n : Int) - j + q := by rw [hwr]; omega
              have hq0 : ¬ ((q : Nat) : Int) < 0 := by omega
              go_wp2_with fail
              go_quiet (fail)
              go_wp2_with fail
              gi_wp2
              obtain ⟨W4, hW4⟩ : ∃ W4, W4 = (wr.drewN nq).setCell ⟨Bs, q, none⟩ (.int .i64 ((f q : Nat) + 1)) := ⟨_, rfl⟩
              rw [← hW4]
              have hJ4 : J (pre ++ [f]) W4 := by rw [hW4]; exact SET.out _ _ _ _ (DR.out _ _ _ hJq) hq
              have hP4 : Pos Bs (q + 1) (adv f q) W4 := fun i hi => by
                rw [hW4]
                by_cases e : i = q
                · subst e; rw [World.cell?_setCell_same' _ _ _ (by rw [World.cell?_drewN, hcq]; rfl)]; simp [adv]
                · rw [World.cell?_setCell_other _ _ _ _ (by intro h; exact e (congrArg Addr.off h).symm), World.cell?_drewN, HPq.out i (by omega)]
                  simp only [adv]; rw [if_pos (by omega)]
              have HW4 : Hid _ := hW4
              have HP4 : Hid _ := hP4
              have HN : Hid (f q < n - j + q) := by show _ < _; omega
              clear hW4 hP4 k0 k1 hcq hfz hd hne hwr hw1 he hfq hge hlt
              refine wpIn_wide.2 ?_
              go_loopw [7] (fun c wr => ∃ r : Nat, q + 1 ≤ r ∧ r ≤ j ∧ c = .int .i64 (r : Nat) ∧ J (pre ++ [f]) wr ∧ Pos Bs r (adv f q) wr) (fun c _ => j - (intOf c).toNat)
              case atStart => exact ⟨q + 1, by omega, by omega, by go_num, hJ4, HP4.out⟩
              case round =>
                obtain ⟨r, hqr, hrj, rfl, hJr, hPr⟩ := hrel
                obtain ⟨k0, k1, k2⟩ := CP.out _ _ hJr
                have HPr : Hid _ := hPr
                clear hPr k1
                by_cases hr : r < j
                · have hlt : ((r : Nat) : Int) < (j : Nat) := by omega
                  obtain ⟨p, rfl⟩ : ∃ p, r = p + 1 := ⟨r - 1, by omega⟩
                  have hcp : wr.cell? ⟨Bs, p, none⟩ = some (.int .i64 (adv f q p : Nat)) := HPr.out p (by omega)
                  obtain ⟨⟨v, hv⟩, hfz⟩ := k2 (p + 1) hr
                  have hpj : ((p : Nat) : Int) < (j : Nat) := by omega
                  have hav : adv f q p < 12 := by
                    have := (adv_asc n f q j HA3.out HN.out).2 p (by omega)
                    omega
                  clear k2
                  go_wp2_with fail
                  go_region
                  go_wp2_with fail
                  refine ⟨⟨p + 1 + 1, by omega, by omega, by simp, DR.out _ _ 1 (SET.out _ _ _ _ hJr hr), fun i hi => ?_⟩, by simp [intOf]; omega⟩
                  show (wr.setCell _ _).cell? _ = _
                  by_cases e : i = p + 1
                  · subst e; rw [World.cell?_setCell_same' _ _ _ (by rw [hv]; rfl)]
                    have : adv f q (p + 1) = adv f q p + 1 := by simp only [adv]; rw [if_neg (by omega), if_neg (by omega)]; omega
                    rw [this]; simp
                  · rw [World.cell?_setCell_other _ _ _ _ (by intro h; exact e (congrArg Addr.off h).symm)]; exact HPr.out i (by omega)
                · obtain rfl : r = j := by omega
                  have hlt : ¬ ((r : Nat) : Int) < (r : Nat) := by omega
                  have HL : Hid (rev (adv f q) r < rev f r) := adv_rev f q r (by omega) (by have := HN.out; omega)
                  clear k2
                  go_wp2_with fail
                  have hrv := rev_rd (Bs := Bs) (k := r) (f := adv f q) (W := wr) HPr.out
                  refine ⟨⟨pre ++ [f], adv f q, hJr, HPr.out, adv_asc n f q r HA3.out HN.out, ?_, fun h => by simp at h⟩, ?_⟩
                  · have h1 := HL.out; have h2 := HL3.out; simp; omega
                  · rw [hrv, HM.out]; exact HL.out

end Go.Proofs.YbulkbvduFmt

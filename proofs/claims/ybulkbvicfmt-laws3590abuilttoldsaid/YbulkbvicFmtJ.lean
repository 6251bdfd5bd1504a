/-
  Seat b3590aF: the walk of LawS3590ABuilt.
-/
import Derived.Test.YbulkbvicFmtI
namespace Go.Proofs.YbulkbvicFmt
open Go.RowKit Go.Extern.Stop Go.Stop Go.Extern

/-- The sign's bytes, and where the number begins. -/
def sgnL (c : Int) : List Int := if c % 3 = 1 then [43] else if c % 3 = 2 then [45] else []
def sgnS (c : Int) : Nat := if c % 3 = 1 then 1 else 0

/-- The integer's bytes, k of them (1 ≤ k). -/
def intTo (f : Nat → Int) (k : Nat) : List Int := (49 + f 0 % 9) :: (List.range (k - 1)).map fun j => 48 + f (j + 1) % 10
/-- k digits. -/
def digTo (f : Nat → Int) (k : Nat) : List Int := (List.range k).map fun j => 48 + f j % 10
theorem intTo_length {f : Nat → Int} {k : Nat} (h : 1 ≤ k) : (intTo f k).length = k := by simp [intTo]; omega
theorem intTo_succ {f : Nat → Int} {k : Nat} (h : 1 ≤ k) : intTo f (k + 1) = intTo f k ++ [48 + f k % 10] := by
  obtain ⟨m, rfl⟩ : ∃ m, k = m + 1 := ⟨k - 1, by omega⟩
  simp [intTo, List.range_succ]
theorem digTo_length {f : Nat → Int} {k : Nat} : (digTo f k).length = k := by simp [digTo]
theorem digTo_succ {f : Nat → Int} {k : Nat} : digTo f (k + 1) = digTo f k ++ [48 + f k % 10] := by simp [digTo, List.range_succ]
def intL (f : Nat → Int) (n : Nat) : List Int := if n = 0 then [48] else intTo f n
def fracL (f : Nat → Int) (n : Nat) : List Int := if n = 0 then [] else 46 :: digTo f n
def markL (c : Int) : List Int := if c % 3 = 1 then [101] else if c % 3 = 2 then [69] else []
def expL (f : Nat → Int) (n : Nat) : List Int := if n = 0 then [48] else digTo f n
def tailL (c3 c4 : Int) (f : Nat → Int) (n : Nat) : List Int := if c3 % 3 = 0 then [] else sgnL c4 ++ expL f n

theorem intL_length {f : Nat → Int} {n : Nat} : 0 < (intL f n).length ∧ (intL f n).length ≤ n + 1 := by
  unfold intL
  split
  · simp
  · rw [intTo_length (by omega)]; omega
theorem fracL_length {f : Nat → Int} {n : Nat} : (fracL f n).length ≤ n + 1 := by
  unfold fracL
  split
  · simp
  · simp [digTo_length]
theorem sgnL_length {c : Int} : (sgnL c).length ≤ 1 := by unfold sgnL; split <;> (try split) <;> simp
theorem markL_length {c : Int} : (markL c).length ≤ 1 := by unfold markL; split <;> (try split) <;> simp
theorem tailL_length {c3 c4 : Int} {f : Nat → Int} {n : Nat} : (tailL c3 c4 f n).length ≤ n + 2 := by
  unfold tailL
  split
  · simp
  · rw [List.length_append]
    have := sgnL_length (c := c4)
    unfold expL
    split
    · simp; omega
    · rw [digTo_length]; omega
theorem digTo_dig {f : Nat → Int} {n : Nat} : ∀ x ∈ digTo f n, dig x = true := by
  intro x hx
  simp only [digTo, List.mem_map] at hx
  obtain ⟨j, _, rfl⟩ := hx
  simp [dig]; omega
theorem intTo_dig {f : Nat → Int} {n : Nat} : ∀ x ∈ intTo f n, dig x = true := by
  intro x hx
  simp only [intTo, List.mem_cons, List.mem_map] at hx
  rcases hx with rfl | ⟨j, _, rfl⟩
  · simp [dig]; omega
  · simp [dig]; omega
theorem intL_dig {f : Nat → Int} {n : Nat} : ∀ x ∈ intL f n, dig x = true := by
  unfold intL
  split
  · intro x hx; simp at hx; subst hx; rfl
  · exact intTo_dig
theorem expL_dig {f : Nat → Int} {n : Nat} : 0 < (expL f n).length ∧ ∀ x ∈ expL f n, dig x = true := by
  unfold expL
  split
  · exact ⟨by simp, by intro x hx; simp at hx; subst hx; rfl⟩
  · exact ⟨by rw [digTo_length]; omega, digTo_dig⟩

/-- The whole text is read back. -/
theorem built_says (c0 c3 c4 : Int) (f1 f2 f5 : Nat → Int) (n1 n2 n5 : Nat) (L : List Int) (hL : L = (((sgnL c0 ++ intL f1 n1) ++ fracL f2 n2) ++ markL c3) ++ tailL c3 c4 f5 n5) :
    plus (fun k => L.getD k 0) L.length = sgnS c0 ∧
    whole (fun k => L.getD k 0) L.length = some ((sgnL c0 ++ intL f1 n1).length, ((sgnL c0 ++ intL f1 n1) ++ fracL f2 n2).length, L.length) := by
  have h := built_law (sgnL c0) (intL f1 n1) (fracL f2 n2) (markL c3 ++ tailL c3 c4 f5 n5) (sgnS c0)
    (by unfold sgnL sgnS; by_cases e1 : c0 % 3 = 1 <;> by_cases e2 : c0 % 3 = 2 <;> simp [e1, e2])
    intL_length.1 intL_dig
    (by
      unfold intL
      split
      · left; rfl
      · right; simp [intTo]; omega)
    (by
      unfold fracL
      split
      · left; rfl
      · right; exact ⟨_, rfl, by rw [digTo_length]; omega, digTo_dig⟩)
    (by
      unfold tailL
      by_cases e : c3 % 3 = 0
      · left; simp [e, markL]
      · right
        rw [if_neg e]
        refine ⟨if c3 % 3 = 1 then 101 else 69, sgnL c4, expL f5 n5, ?_, ?_, ?_, expL_dig⟩
        · have e2 : c3 % 3 = 1 ∨ c3 % 3 = 2 := by omega
          rcases e2 with e2 | e2 <;> simp [markL, e2]
        · split <;> simp
        · unfold sgnL; split <;> (try split) <;> simp)
  have e : sgnL c0 ++ (intL f1 n1 ++ (fracL f2 n2 ++ (markL c3 ++ tailL c3 c4 f5 n5))) = L := by rw [hL]; simp only [List.append_assoc]
  rw [e] at h
  refine ⟨h.1, ?_⟩
  rw [h.2]
  simp only [List.length_append]

set_option maxHeartbeats 4000000 in
set_option maxRecDepth 100000 in
theorem built_in (c0 c3 c4 : Int) (p1 p2 p5 : Option Addr) (n1 n2 n5 cap1 cap2 cap5 : Nat) (f1 f2 f5 : Nat → Int)
    (h0 : 0 ≤ c0 ∧ c0 ≤ 255) (h3 : 0 ≤ c3 ∧ c3 ≤ 255) (h4 : 0 ≤ c4 ∧ c4 ≤ 255)
    (hf1 : ∀ k, k < n1 → 0 ≤ f1 k ∧ f1 k ≤ 255) (hf2 : ∀ k, k < n2 → 0 ≤ f2 k ∧ f2 k ≤ 255) (hf5 : ∀ k, k < n5 → 0 ≤ f5 k ∧ f5 k ≤ 255)
    (hn1 : n1 ≤ 1024) (hn2 : n2 ≤ 1024) (hn5 : n5 ≤ 1024) (w : World) (ht1 : Txt w p1 n1 f1) (ht2 : Txt w p2 n2 f2) (ht5 : Txt w p5 n5 f5) :
    Calls Ybaf.prog 5 #[.int .u8 c0, .slice p1 n1 cap1, .slice p2 n2 cap2, .int .u8 c3, .int .u8 c4, .slice p5 n5 cap5] w fun e w' => e = .returned (.bool true) ∧ Below w.heap.size w w' := by
  have HT1 : Hid (Txt w p1 n1 f1) := ht1
  have HT2 : Hid (Txt w p2 n2 f2) := ht2
  have HT5 : Hid (Txt w p5 n5 f5) := ht5
  have HF1 : Hid _ := hf1
  have HF2 : Hid _ := hf2
  have HF5 : Hid _ := hf5
  clear ht1 ht2 ht5 hf1 hf2 hf5
  obtain ⟨CAP, hCAP⟩ : ∃ CAP, CAP = n1 + n2 + n5 + 8 := ⟨_, rfl⟩
  have HCAP : Hid (CAP = n1 + n2 + n5 + 8) := hCAP
  have hmk := make0 CAP (by omega) ((n1 : Int) + n2 + n5 + 8) (by omega)
  obtain ⟨W1, hW1⟩ : ∃ W1, W1 = w.alloc (.cells (madeCells #[.int .u8 0] CAP) 5) := ⟨_, rfl⟩
  have HL : Hid (TLies W1 w.heap.size CAP []) := by rw [hW1]; exact TLies.made w CAP
  have HB : Hid (Below w.heap.size w W1) := by rw [hW1]; exact (Below.refl _ w).alloc (Nat.le_refl _) _
  obtain ⟨S, hS⟩ : ∃ S, S = sgnL c0 := ⟨_, rfl⟩
  obtain ⟨s, hs⟩ : ∃ s, s = sgnS c0 := ⟨_, rfl⟩
  have HS : Hid (((c0 % 3 == 1) = false ∧ (c0 % 3 == 2) = false ∧ S = [] ∧ s = 0) ∨ ((c0 % 3 == 1) = true ∧ S = [43] ∧ s = 1) ∨ ((c0 % 3 == 1) = false ∧ (c0 % 3 == 2) = true ∧ S = [45] ∧ s = 0)) := by
    show _ ∨ _
    rw [hS, hs]
    unfold sgnL sgnS
    by_cases e1 : c0 % 3 = 1
    · right; left; simp [e1]
    · by_cases e2 : c0 % 3 = 2
      · right; right; simp [e2]
      · left; simp [e1, e2]
  have HSS : Hid (S = sgnL c0) := hS
  have Hss : Hid (s = sgnS c0) := hs
  clear hS hs hCAP
  go_enter Ybaf.func5, Ybaf.ntmps5
  go_upto_region 4 with fail
  rw [← hW1]
  clear hW1 hmk
  go_upto_block 0 with fail
  go_cut [13, 14] (fun s13 s14 wx => s13 = .slice (some ⟨w.heap.size, 0, none⟩) S.length CAP ∧ s14 = .int .i64 s ∧ Hid (TLies wx w.heap.size CAP S) ∧ Hid (Below w.heap.size w wx))
  case first =>
    rcases HS.out with ⟨e1, e2, rfl, rfl⟩ | ⟨e1, rfl, rfl⟩ | ⟨e1, e2, rfl, rfl⟩
    · go_wp2_with fail
      go_meet
      case rel => exact ⟨rfl, rfl, HL, HB⟩
    · go_wp2_with (at_builtin; refine wpList_app rfl (.tmp 49) (.tmp 50) rfl w.heap.size CAP [] 43 W1.heap.size rfl rfl (by go_simp) (HL.out.alloc _) (by rw [HCAP.out]; simp) w.heap.size w (HB.out.alloc HB.out.size _) (Nat.le_refl _) ?_; intro W2 HL2 HB2)
      go_meet
      case rel => exact ⟨rfl, rfl, HL2, HB2⟩
    · go_wp2_with (at_builtin; refine wpList_app rfl (.tmp 54) (.tmp 55) rfl w.heap.size CAP [] 45 W1.heap.size rfl rfl (by go_simp) (HL.out.alloc _) (by rw [HCAP.out]; simp) w.heap.size w (HB.out.alloc HB.out.size _) (Nat.le_refl _) ?_; intro W2 HL2 HB2)
      go_meet
      case rel => exact ⟨rfl, rfl, HL2, HB2⟩
  case rest =>
    obtain ⟨rfl, rfl, HL1, HB1⟩ := hcut
    obtain ⟨W2, rfl⟩ : ∃ W, W = wc := ⟨_, rfl⟩
    clear HS HL HB
    have hSl : S.length ≤ 1 := by rw [HSS.out]; exact sgnL_length
    obtain ⟨L1, hL1⟩ : ∃ L, L = S ++ intL f1 n1 := ⟨_, rfl⟩
    have hl1 : L1.length ≤ n1 + 2 := by rw [hL1, List.length_append]; have := (intL_length (f := f1) (n := n1)).2; omega
    have HE1 : Hid (L1 = S ++ intL f1 n1) := hL1
    clear hL1
    go_upto_if 59 with fail
    go_cut [13] (fun s13 wx => s13 = .slice (some ⟨w.heap.size, 0, none⟩) L1.length CAP ∧ Hid (TLies wx w.heap.size CAP L1) ∧ Hid (Below w.heap.size w wx))
    case first =>
      as_aux_lemma =>
        by_cases e0 : n1 = 0
        · have HE : Hid (L1 = S ++ [48]) := by show _ = _; rw [HE1.out]; simp [intL, e0]
          have e1 : ((n1 : Int) == 0) = true := by simp [e0]
          clear e0
          go_wp2_with (at_builtin; refine wpList_app rfl (.tmp 60) (.tmp 61) rfl w.heap.size CAP S 48 W2.heap.size rfl rfl (by go_simp) (HL1.out.alloc _) (by rw [HCAP.out]; omega) w.heap.size w (HB1.out.alloc HB1.out.size _) (Nat.le_refl _) ?_; intro W3 HLW3 HBW3)
          go_meet
          case rel => rw [HE.out]; exact ⟨by simp, HLW3, HBW3⟩
        · have e1 : ((n1 : Int) == 0) = false := by simp [e0]
          have HE : Hid (L1 = S ++ intTo f1 n1) := by show _ = _; rw [HE1.out]; simp [intL, e0]
          rcases HT1.out with h | ⟨b1, off1, rfl, hbl1, hc1⟩
          · omega
          have HC1 : Hid _ := hc1
          clear hc1
          obtain ⟨x, hx⟩ : ∃ x, x = f1 0 := ⟨_, rfl⟩
          have hx0 : 0 ≤ x ∧ x ≤ 255 := by rw [hx]; exact HF1.out 0 (by omega)
          have hcx : W2.cell? ⟨b1, off1, none⟩ = some (.int .u8 x) := by rw [hx]; exact cell_later HB1.out (HC1.out 0 (by omega))
          have HX : Hid (x = f1 0) := hx
          clear hx
          go_wp2_with (at_builtin; refine wpList_app rfl (.tmp 63) (.tmp 69) rfl w.heap.size CAP S (49 + x % 9) W2.heap.size rfl rfl (by go_simp) (HL1.out.alloc _) (by rw [HCAP.out]; omega) w.heap.size w (HB1.out.alloc HB1.out.size _) (Nat.le_refl _) ?_; intro W3 HLW3 HBW3)
          go_loopw [13, 15] (fun c13 c wr => ∃ (k : Nat) (L : List Int), 1 ≤ k ∧ k ≤ n1 ∧ c = .int .i64 k ∧ c13 = .slice (some ⟨w.heap.size, 0, none⟩) L.length CAP ∧ Hid (L = S ++ intTo f1 k) ∧ Hid (TLies wr w.heap.size CAP L) ∧ Hid (Below w.heap.size w wr)) (fun _ c _ => n1 - (intOf c).toNat)
          case atStart => exact ⟨1, S ++ [49 + x % 9], Nat.le_refl _, by omega, rfl, by simp, by show _ = _; rw [HX.out]; simp [intTo], HLW3, HBW3⟩
          case round =>
            obtain ⟨k, L, hk1, hk, rfl, rfl, HLE, HL4, HB4⟩ := hrel
            have hLl : L.length ≤ S.length + k + 1 := by rw [HLE.out, List.length_append, intTo_length hk1]; omega
            by_cases hlt : k < n1
            · have hlt' : (k : Int) < n1 := by omega
              obtain ⟨y, hy⟩ : ∃ y, y = f1 k := ⟨_, rfl⟩
              have hy0 : 0 ≤ y ∧ y ≤ 255 := by rw [hy]; exact HF1.out k hlt
              have hcy : wr.cell? ⟨b1, off1 + k, none⟩ = some (.int .u8 y) := by rw [hy]; exact cell_later HB4.out (HC1.out k hlt)
              have HY : Hid (y = f1 k) := hy
              clear hy
              go_wp2_with (at_builtin; refine wpList_app rfl (.tmp 77) (.tmp 84) rfl w.heap.size CAP L (48 + y % 10) wr.heap.size rfl rfl (by go_simp) (HL4.out.alloc _) (by rw [HCAP.out]; omega) w.heap.size w (HB4.out.alloc HB4.out.size _) (Nat.le_refl _) ?_; intro W5 HLW5 HBW5)
              exact ⟨⟨k + 1, L ++ [48 + y % 10], by omega, by omega, by go_num, by simp, by show _ = _; rw [HLE.out, HY.out, intTo_succ hk1]; simp, HLW5, HBW5⟩, by simp [intOf]; omega⟩
            · have hlt' : decide ((k : Int) < n1) = false := by simp; omega
              have hke : k = n1 := by omega
              have HEE : Hid (L1 = L) := by show _ = _; rw [HLE.out, hke, HE.out]
              clear hke
              go_wp2_with fail
              go_meet
              case rel => rw [HEE.out]; exact ⟨by simp, HL4, HB4⟩
    case rest =>
      obtain ⟨rfl, HL2, HB2⟩ := hcut
      obtain ⟨W3, rfl⟩ : ∃ W, W = wc := ⟨_, rfl⟩
      clear HL1 HB1
      obtain ⟨L2, hL2⟩ : ∃ L, L = L1 ++ fracL f2 n2 := ⟨_, rfl⟩
      have hl2 : L2.length ≤ n1 + n2 + 3 := by rw [hL2, List.length_append]; have := fracL_length (f := f2) (n := n2); omega
      have HE2 : Hid (L2 = L1 ++ fracL f2 n2) := hL2
      clear hL2
      go_upto_if 90 with fail
      go_cut [13] (fun s13 wx => s13 = .slice (some ⟨w.heap.size, 0, none⟩) L2.length CAP ∧ Hid (TLies wx w.heap.size CAP L2) ∧ Hid (Below w.heap.size w wx))
      case first =>
        as_aux_lemma =>
          by_cases e0 : n2 = 0
          · have HE : Hid (L2 = L1) := by show _ = _; rw [HE2.out]; simp [fracL, e0]
            have e1 : decide ((0 : Int) < (n2 : Int)) = false := by simp; omega
            go_wp2_with fail
            go_meet
            case rel => rw [HE.out]; exact ⟨rfl, HL2, HB2⟩
          · have e1 : (0 : Int) < (n2 : Int) := by omega
            have HE : Hid (L2 = (L1 ++ [46]) ++ digTo f2 n2) := by show _ = _; rw [HE2.out]; simp [fracL, e0]
            obtain ⟨L1', hL1'⟩ : ∃ L, L = L1 ++ [46] := ⟨_, rfl⟩
            have hl1' : L1'.length ≤ n1 + 3 := by rw [hL1']; simp; omega
            rw [← hL1'] at HE
            have HEQ : Hid (L1' = L1 ++ [46]) := hL1'
            clear hL1'
            rcases HT2.out with h | ⟨b2, off2, rfl, hbl2, hc2⟩
            · omega
            have HC2 : Hid _ := hc2
            clear hc2
            go_wp2_with (at_builtin; refine wpList_app rfl (.tmp 91) (.tmp 92) rfl w.heap.size CAP L1 46 W3.heap.size rfl rfl (by go_simp) (HL2.out.alloc _) (by rw [HCAP.out]; omega) w.heap.size w (HB2.out.alloc HB2.out.size _) (Nat.le_refl _) ?_; intro W4 HLW4 HBW4)
            go_loopw [13, 17] (fun c13 c wr => ∃ (k : Nat) (L : List Int), 0 ≤ k ∧ k ≤ n2 ∧ c = .int .i64 k ∧ c13 = .slice (some ⟨w.heap.size, 0, none⟩) L.length CAP ∧ Hid (L = L1' ++ digTo f2 k) ∧ Hid (TLies wr w.heap.size CAP L) ∧ Hid (Below w.heap.size w wr)) (fun _ c _ => n2 - (intOf c).toNat)
            case atStart => exact ⟨0, L1 ++ [46], Nat.le_refl _, by omega, rfl, by simp, by show _ = _; rw [HEQ.out]; simp [digTo], HLW4, HBW4⟩
            case round =>
              obtain ⟨k, L, hk1, hk, rfl, rfl, HLE, HL4, HB4⟩ := hrel
              have hLl : L.length ≤ L1'.length + k + 0 := by rw [HLE.out, List.length_append, digTo_length]; omega
              by_cases hlt : k < n2
              · have hlt' : (k : Int) < n2 := by omega
                obtain ⟨y, hy⟩ : ∃ y, y = f2 k := ⟨_, rfl⟩
                have hy0 : 0 ≤ y ∧ y ≤ 255 := by rw [hy]; exact HF2.out k hlt
                have hcy : wr.cell? ⟨b2, off2 + k, none⟩ = some (.int .u8 y) := by rw [hy]; exact cell_later HB4.out (HC2.out k hlt)
                have HY : Hid (y = f2 k) := hy
                clear hy
                go_wp2_with (at_builtin; refine wpList_app rfl (.tmp 100) (.tmp 107) rfl w.heap.size CAP L (48 + y % 10) wr.heap.size rfl rfl (by go_simp) (HL4.out.alloc _) (by rw [HCAP.out]; omega) w.heap.size w (HB4.out.alloc HB4.out.size _) (Nat.le_refl _) ?_; intro W5 HLW5 HBW5)
                exact ⟨⟨k + 1, L ++ [48 + y % 10], by omega, by omega, by go_num, by simp, by show _ = _; rw [HLE.out, HY.out, digTo_succ]; simp, HLW5, HBW5⟩, by simp [intOf]; omega⟩
              · have hlt' : decide ((k : Int) < n2) = false := by simp; omega
                have hke : k = n2 := by omega
                have HEE : Hid (L2 = L) := by show _ = _; rw [HLE.out, hke, HE.out]
                clear hke
                go_wp2_with fail
                go_meet
                case rel => rw [HEE.out]; exact ⟨by simp, HL4, HB4⟩
      case rest =>
        obtain ⟨rfl, HL3, HB3⟩ := hcut
        obtain ⟨W4, rfl⟩ : ∃ W, W = wc := ⟨_, rfl⟩
        clear HL2 HB2
        obtain ⟨L3, hL3⟩ : ∃ L, L = L2 ++ markL c3 := ⟨_, rfl⟩
        have hl3 : L3.length ≤ n1 + n2 + 4 := by rw [hL3, List.length_append]; have := markL_length (c := c3); omega
        have HE3 : Hid (L3 = L2 ++ markL c3) := hL3
        clear hL3
        have HS : Hid (((c3 % 3 == 1) = false ∧ (c3 % 3 == 2) = false ∧ L3 = L2) ∨ ((c3 % 3 == 1) = true ∧ L3 = L2 ++ [101]) ∨ ((c3 % 3 == 1) = false ∧ (c3 % 3 == 2) = true ∧ L3 = L2 ++ [69])) := by
          show _ ∨ _
          rw [HE3.out]
          unfold markL
          by_cases e1 : c3 % 3 = 1
          · right; left; simp [e1]
          · by_cases e2 : c3 % 3 = 2
            · right; right; simp [e2]
            · left; simp [e1, e2]
        go_upto_block 5 with fail
        go_cut [13] (fun s13 wx => s13 = .slice (some ⟨w.heap.size, 0, none⟩) L3.length CAP ∧ Hid (TLies wx w.heap.size CAP L3) ∧ Hid (Below w.heap.size w wx))
        case first =>
          as_aux_lemma =>
            rcases HS.out with ⟨e1, e2, h⟩ | ⟨e1, h⟩ | ⟨e1, e2, h⟩
            · have HE : Hid _ := h
              clear h
              go_wp2_with fail
              go_meet
              case rel => rw [HE.out]; exact ⟨rfl, HL3, HB3⟩
            · have HE : Hid _ := h
              clear h
              go_wp2_with (at_builtin; refine wpList_app rfl (.tmp 115) (.tmp 116) rfl w.heap.size CAP L2 101 W4.heap.size rfl rfl (by go_simp) (HL3.out.alloc _) (by rw [HCAP.out]; omega) w.heap.size w (HB3.out.alloc HB3.out.size _) (Nat.le_refl _) ?_; intro W5 HLW5 HBW5)
              go_meet
              case rel => rw [HE.out]; exact ⟨by simp, HLW5, HBW5⟩
            · have HE : Hid _ := h
              clear h
              go_wp2_with (at_builtin; refine wpList_app rfl (.tmp 120) (.tmp 121) rfl w.heap.size CAP L2 69 W4.heap.size rfl rfl (by go_simp) (HL3.out.alloc _) (by rw [HCAP.out]; omega) w.heap.size w (HB3.out.alloc HB3.out.size _) (Nat.le_refl _) ?_; intro W5 HLW5 HBW5)
              go_meet
              case rel => rw [HE.out]; exact ⟨by simp, HLW5, HBW5⟩
        case rest =>
          obtain ⟨rfl, HL4, HB4⟩ := hcut
          obtain ⟨W5, rfl⟩ : ∃ W, W = wc := ⟨_, rfl⟩
          clear HL3 HB3 HS
          obtain ⟨L4, hL4⟩ : ∃ L, L = L3 ++ tailL c3 c4 f5 n5 := ⟨_, rfl⟩
          have hl4 : L4.length ≤ n1 + n2 + n5 + 6 := by rw [hL4, List.length_append]; have := tailL_length (c3 := c3) (c4 := c4) (f := f5) (n := n5); omega
          have HE4 : Hid (L4 = L3 ++ tailL c3 c4 f5 n5) := hL4
          clear hL4
          go_upto_if 125 with fail
          go_cut [13] (fun s13 wx => s13 = .slice (some ⟨w.heap.size, 0, none⟩) L4.length CAP ∧ Hid (TLies wx w.heap.size CAP L4) ∧ Hid (Below w.heap.size w wx))
          case first =>
            by_cases e0 : c3 % 3 = 0
            · have HE : Hid (L4 = L3) := by show _ = _; rw [HE4.out]; simp [tailL, e0]
              have e1 : (c3 % 3 != 0) = false := by rw [e0]; rfl
              clear e0
              go_wp2_with fail
              go_meet
              case rel => rw [HE.out]; exact ⟨rfl, HL4, HB4⟩
            · have e1 : (c3 % 3 != 0) = true := by rw [bne_iff_ne]; exact e0
              obtain ⟨L5, hL5⟩ : ∃ L, L = L3 ++ sgnL c4 := ⟨_, rfl⟩
              have hl5 : L5.length ≤ n1 + n2 + 5 := by rw [hL5, List.length_append]; have := sgnL_length (c := c4); omega
              have HE : Hid (L4 = L5 ++ expL f5 n5) := by show _ = _; rw [HE4.out, hL5]; simp [tailL, e0]
              have HS : Hid (((c4 % 3 == 1) = false ∧ (c4 % 3 == 2) = false ∧ L5 = L3) ∨ ((c4 % 3 == 1) = true ∧ L5 = L3 ++ [43]) ∨ ((c4 % 3 == 1) = false ∧ (c4 % 3 == 2) = true ∧ L5 = L3 ++ [45])) := by
                show _ ∨ _
                rw [hL5]
                unfold sgnL
                by_cases e1 : c4 % 3 = 1
                · right; left; simp [e1]
                · by_cases e2 : c4 % 3 = 2
                  · right; right; simp [e2]
                  · left; simp [e1, e2]
              clear e0 hL5
              go_upto_block 6 with fail
              go_cut [13] (fun s13 wx => s13 = .slice (some ⟨w.heap.size, 0, none⟩) L5.length CAP ∧ Hid (TLies wx w.heap.size CAP L5) ∧ Hid (Below w.heap.size w wx))
              case first =>
                as_aux_lemma =>
                  rcases HS.out with ⟨e1, e2, h⟩ | ⟨e1, h⟩ | ⟨e1, e2, h⟩
                  · have HE : Hid _ := h
                    clear h
                    go_wp2_with fail
                    go_meet
                    case rel => rw [HE.out]; exact ⟨rfl, HL4, HB4⟩
                  · have HE : Hid _ := h
                    clear h
                    go_wp2_with (at_builtin; refine wpList_app rfl (.tmp 130) (.tmp 131) rfl w.heap.size CAP L3 43 W5.heap.size rfl rfl (by go_simp) (HL4.out.alloc _) (by rw [HCAP.out]; omega) w.heap.size w (HB4.out.alloc HB4.out.size _) (Nat.le_refl _) ?_; intro W6 HLW6 HBW6)
                    go_meet
                    case rel => rw [HE.out]; exact ⟨by simp, HLW6, HBW6⟩
                  · have HE : Hid _ := h
                    clear h
                    go_wp2_with (at_builtin; refine wpList_app rfl (.tmp 135) (.tmp 136) rfl w.heap.size CAP L3 45 W5.heap.size rfl rfl (by go_simp) (HL4.out.alloc _) (by rw [HCAP.out]; omega) w.heap.size w (HB4.out.alloc HB4.out.size _) (Nat.le_refl _) ?_; intro W6 HLW6 HBW6)
                    go_meet
                    case rel => rw [HE.out]; exact ⟨by simp, HLW6, HBW6⟩
              case rest =>
                obtain ⟨rfl, HL5, HB5⟩ := hcut
                obtain ⟨W6, rfl⟩ : ∃ W, W = wc := ⟨_, rfl⟩
                clear HL4 HB4 HS
                by_cases e0 : n5 = 0
                · have HEE : Hid (L4 = L5 ++ [48]) := by show _ = _; rw [HE.out]; simp [expL, e0]
                  have e2 : ((n5 : Int) == 0) = true := by simp [e0]
                  have HZ5 : Hid (n5 = 0) := e0
                  clear e0
                  go_wp2_with (at_builtin; refine wpList_app rfl (.tmp 141) (.tmp 142) rfl w.heap.size CAP L5 48 W6.heap.size rfl rfl (by go_simp) (HL5.out.alloc _) (by rw [HCAP.out]; omega) w.heap.size w (HB5.out.alloc HB5.out.size _) (Nat.le_refl _) ?_; intro W7 HLW7 HBW7)
                  go_loopw [13, 19] (fun c13 c wr => c = .int .i64 (n5 : Int) ∧ c13 = .slice (some ⟨w.heap.size, 0, none⟩) (L5.length + 1) CAP ∧ wr = W7) (fun _ _ _ => 0)
                  case atStart => exact ⟨by rw [HZ5.out]; rfl, by simp, rfl⟩
                  case round =>
                    obtain ⟨rfl, rfl, rfl⟩ := hrel
                    go_wp2_with fail
                    go_meet
                    case rel => rw [HEE.out]; exact ⟨by simp, HLW7, HBW7⟩
                · have HEE : Hid (L4 = L5 ++ digTo f5 n5) := by show _ = _; rw [HE.out]; simp [expL, e0]
                  have e2 : ((n5 : Int) == 0) = false := by simp [e0]
                  rcases HT5.out with h | ⟨b5, off5, rfl, hbl5, hc5⟩
                  · omega
                  have HC5 : Hid _ := hc5
                  clear hc5
                  go_wp2_with fail
                  go_loopw [13, 19] (fun c13 c wr => ∃ (k : Nat) (L : List Int), 0 ≤ k ∧ k ≤ n5 ∧ c = .int .i64 k ∧ c13 = .slice (some ⟨w.heap.size, 0, none⟩) L.length CAP ∧ Hid (L = L5 ++ digTo f5 k) ∧ Hid (TLies wr w.heap.size CAP L) ∧ Hid (Below w.heap.size w wr)) (fun _ c _ => n5 - (intOf c).toNat)
                  case atStart => exact ⟨0, L5, Nat.le_refl _, by omega, rfl, by simp, by show _ = _; simp [digTo], HL5, HB5⟩
                  case round =>
                    obtain ⟨k, L, hk1, hk, rfl, rfl, HLE, HL4, HB4⟩ := hrel
                    have hLl : L.length ≤ L5.length + k + 0 := by rw [HLE.out, List.length_append, digTo_length]; omega
                    by_cases hlt : k < n5
                    · have hlt' : (k : Int) < n5 := by omega
                      obtain ⟨y, hy⟩ : ∃ y, y = f5 k := ⟨_, rfl⟩
                      have hy0 : 0 ≤ y ∧ y ≤ 255 := by rw [hy]; exact HF5.out k hlt
                      have hcy : wr.cell? ⟨b5, off5 + k, none⟩ = some (.int .u8 y) := by rw [hy]; exact cell_later HB4.out (HC5.out k hlt)
                      have HY : Hid (y = f5 k) := hy
                      clear hy
                      go_wp2_with (at_builtin; refine wpList_app rfl (.tmp 150) (.tmp 157) rfl w.heap.size CAP L (48 + y % 10) wr.heap.size rfl rfl (by go_simp) (HL4.out.alloc _) (by rw [HCAP.out]; omega) w.heap.size w (HB4.out.alloc HB4.out.size _) (Nat.le_refl _) ?_; intro W5 HLW5 HBW5)
                      exact ⟨⟨k + 1, L ++ [48 + y % 10], by omega, by omega, by go_num, by simp, by show _ = _; rw [HLE.out, HY.out, digTo_succ]; simp, HLW5, HBW5⟩, by simp [intOf]; omega⟩
                    · have hlt' : decide ((k : Int) < n5) = false := by simp; omega
                      have hke : k = n5 := by omega
                      have HEE : Hid (L4 = L) := by show _ = _; rw [HLE.out, hke, HEE.out]
                      clear hke
                      go_wp2_with fail
                      go_meet
                      case rel => rw [HEE.out]; exact ⟨by simp, HL4, HB4⟩
          case rest =>
            obtain ⟨rfl, HL5, HB5⟩ := hcut
            obtain ⟨W6, rfl⟩ : ∃ W, W = wc := ⟨_, rfl⟩
            clear HL4 HB4
            have hsay := built_says c0 c3 c4 f1 f2 f5 n1 n2 n5 L4 (by rw [HE4.out, HE3.out, HE2.out, HE1.out, HSS.out])
            rw [← HSS.out, ← Hss.out, ← HE1.out, ← HE2.out] at hsay
            have HSAY : Hid _ := hsay
            have HX : Hid _ := fun (_ : Unit) => text_any (some ⟨w.heap.size, 0, none⟩) L4.length CAP (fun k => L4.getD k 0) (by omega) W6 (HL5.out.txt (by rw [HCAP.out]; omega))
            clear hsay
            go_wp2_with fail
            refine (HX.out ()).mono ?_
            rintro r w7 ⟨hp, hb7⟩
            obtain rfl := parsed_some hp HSAY.out.2
            rw [HSAY.out.1]
            have HB7 : Hid (Below w.heap.size w w7) := HB5.out.trans (hb7.mono HB5.out.size)
            clear hp hb7 HX HSAY
            go_wp2_with fail
            go_ret
            exact ⟨rfl, HB7.out.alloc HB7.out.size _⟩

end Go.Proofs.YbulkbvicFmt

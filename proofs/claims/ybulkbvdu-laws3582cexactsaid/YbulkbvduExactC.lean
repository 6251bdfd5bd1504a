/-
  Seat b3582a: LawS3582CExact: the walks where a map is made.
-/
import Derived.Test.YbulkbvduExactA
namespace Go.Proofs.Ybulkbvdu
open Go.RowKit Go.Maps

set_option maxHeartbeats 4000000 in
set_option maxRecDepth 100000 in
theorem exact_und (a3 : Int) (a4 : ByteArray) (a5 : Option Addr) (len5 cap5 b5 o5 : Nat) (f5 : Nat → Int) (a6 : Option Addr) (len6 cap6 b6 o6 : Nat) (f6 : Nat → ByteArray) (a7 : Int) (w : World) (h : len5 ≤ 1024)
    (l5 : Lies w 22 a5 len5 cap5 b5 o5 (fun k => .int .i64 (f5 k))) (l6 : Lies w 23 a6 len6 cap6 b6 o6 (fun k => .string (f6 k))) (wf5 : ∀ k, k < len5 → (Lit.int .i64 (f5 k)).wf = true) (wf6 : ∀ k, k < len6 → (f6 k).size ≤ maxLen) (h3 : ¬ 0 < a3) :
    Calls Yba.prog 3 #[.bool true, .bool false, .bool false, .int .i64 a3, .string a4, .slice a5 len5 cap5, .slice a6 len6 cap6, .int .i64 a7] w fun e w' => e = .returned (.bool true) ∧ Below w.heap.size w w' := by
  have h' : ¬ (1024 : Int) < (len5 : Int) := by omega
  have hmm := @run_makeMap Yba.prog
  have hqn := fun w r => run_eql_map_nil (P := Yba.prog) w 24 _ _ r Yba.underlying24
  go_enter Yba.func3, Yba.ntmps3
  go_wp2
  go_loopw [39] (fun i wr => ∃ k : Nat, k ≤ len5 ∧ i = .int .i64 k ∧ ∃ D, wr.ownsMap Yba.prog 3 (plainElem (H := Unit) Yba.prog 9) w.heap.size k D ∧ (∀ j, j < k → has D (.int .i64 (f5 j)) = true) ∧ Below w.heap.size w wr)
    (fun i _ => len5 - (intOf i).toNat)
  case atStart => exact ⟨0, Nat.zero_le _, rfl, _, World.ownsMap_made _ _ _ _, fun j hj => absurd hj (Nat.not_lt_zero j), (Below.refl _ _).alloc (Nat.le_refl _) _⟩
  case round =>
    obtain ⟨k, hk, rfl, D, hown, hhas, hnx⟩ := hrel
    by_cases hlt : k < len5
    · obtain ⟨x, hx⟩ : ∃ x, x = f5 k := ⟨_, rfl⟩
      have hcx : wr.cell? ⟨b5, o5 + k, none⟩ = some (.int .i64 x) := by rw [hx]; exact cell_later hnx (l5.cell k hlt)
      have hkey : keyOf Yba.prog 3 (.int .i64 x) = some (.int .i64 x) := by rw [hx]; exact keyOf_int_mk Yba.underlying3 (wf5 k hlt)
      have hi5 := fun W => l5.idx k W hlt
      have HH : Hid (∀ d j, j < k + 1 → has (D.put (.int .i64 x) d) (.int .i64 (f5 j)) = true) := fun d j hj => by
        by_cases e : j = k
        · subst e; rw [hx]; exact has_put_same hown.isMap (law.key (keyOf_int_mk Yba.underlying3 (wf5 j hlt))) d
        · exact has_put hown.isMap (law.key hkey) d (hhas j (by omega))
      clear hx hhas
      by_cases hv : k < len6
      · obtain ⟨s, hs⟩ : ∃ s, s = f6 k := ⟨_, rfl⟩
        have hcy : wr.cell? ⟨b6, o6 + k, none⟩ = some (.string s) := by rw [hs]; exact cell_later hnx (l6.cell k hv)
        have hval : plainElem (H := Unit) Yba.prog 9 (.string s) = some (.lit (.string s.data.toList), []) := by rw [hs]; exact plainElem_string Yba.underlying9 (wf6 k hv)
        have hi6 := fun W => l6.idx k W hv
        clear hs
        go_wp2_with (at_mapUpdate; refine wpList_mapUpdate_in _ rfl _ _ _ 24 rfl 3 9 law Yba.underlying24 _ w.heap.size k D rfl hown (by unfold maxLen; omega) _ _ _ rfl rfl hkey _ [] hval ?_)
        intro w1 hown1 hturn1
        have R1 := hnx.grown hturn1.grown hnx.size (fun j hj => by cases hj; exact Nat.le_refl _)
        have HO : Hid _ := hown1
        clear hown1 hturn1 hown hnx hcx hcy
        go_wp2
        go_roundw
        case rel => exact ⟨k + 1, by omega, by go_num, _, HO.out, HH.out _, R1⟩
        case measure => simp [intOf]; omega
      · have hval : plainElem (H := Unit) Yba.prog 9 (.string ⟨#[]⟩) = some (.lit (.string []), []) := plainElem_string Yba.underlying9 (Nat.zero_le _)
        go_wp2_with (at_mapUpdate; refine wpList_mapUpdate_in _ rfl _ _ _ 24 rfl 3 9 law Yba.underlying24 _ w.heap.size k D rfl hown (by unfold maxLen; omega) _ _ _ rfl rfl hkey _ [] hval ?_)
        intro w1 hown1 hturn1
        have R1 := hnx.grown hturn1.grown hnx.size (fun j hj => by cases hj; exact Nat.le_refl _)
        have HO : Hid _ := hown1
        clear hown1 hturn1 hown hnx hcx
        go_wp2
        go_roundw
        case rel => exact ⟨k + 1, by omega, by go_num, _, HO.out, HH.out _, R1⟩
        case measure => simp [intOf]; omega
    · obtain rfl : k = len5 := by omega
      obtain ⟨es, clock, hb, F, hs, hD⟩ := hown
      have hlen : ∀ (W : World) (b : Nat), W.heap[b]? = some (.map es clock) → ∀ ty, (Builtin.len_ #[24] ty #[.map (some b)]).run Yba.prog W = .ok (.int .i64 (size D)) W :=
        fun W b hW ty => World.ownsMap.len ⟨es, clock, hW, F, hs, hD⟩ Yba.underlying24 ty
      have hzl : w.heap.size < wr.heap.size := (Array.getElem?_eq_some_iff.1 hb).1
      have HB : Hid (Below w.heap.size w wr) := hnx
      have HL : Hid _ := hlen
      have HM : Hid (wr.heap[w.heap.size]? = some (.map es clock)) := hb
      obtain ⟨g, hg⟩ : ∃ g : Int → ByteArray, ∀ j, j < k → ∀ (W : World) (b : Nat), W.heap[b]? = some (.map es clock) → (Instr.lookup 24 (.map (some b)) (.int .i64 (f5 j)) true).run Yba.prog W = .ok (.tuple #[.string (g (f5 j)), .bool true]) W ∧ (Instr.lookup 24 (.map (some b)) (.int .i64 (f5 j)) false).run Yba.prog W = .ok (.string (g (f5 j))) W := looks_same F hs hD wf5 hhas
      have HG : Hid _ := hg
      have HDEL : Hid (∀ (W : World) (x : Int), keyOf Yba.prog 3 (.int .i64 x) = some (.int .i64 x) → W.cell? ⟨wr.heap.size, 3, none⟩ = some (.map (some w.heap.size)) → W.heap[w.heap.size]? = some (.map es clock) → W.heap[wr.heap.size + 1 + 1]? = some (.map es clock) → Below w.heap.size w W →
          ∃ w2, (Builtin.delete_ #[24, 3] 0 #[.map (some (wr.heap.size + 1 + 1)), .int .i64 x]).run Yba.prog W.drew = .ok (.tuple #[]) w2 ∧ W.drew.mapTurned w2 (wr.heap.size + 1 + 1) ∧ w2.cell? ⟨wr.heap.size, 3, none⟩ = some (.map (some w.heap.size)) ∧ w2.heap[w.heap.size]? = some (.map es clock) ∧ Below w.heap.size w w2) :=
        fun W x hkey q3 q1 q2 bW => by
          obtain ⟨w2, e1, _, e3⟩ := World.ownsMap.drop (w := W.drew) (D := D) (n := k) ⟨es, clock, q2, F, hs, hD⟩ law Yba.underlying24 hkey 0
          have hlt2 := (Array.getElem?_eq_some_iff.1 q2).1
          have k1 : w.heap.size ≠ wr.heap.size + 1 + 1 := by have := hnx.size; omega
          refine ⟨w2, e1, e3, ?_, ?_, ?_⟩
          · rw [World.cell?_of_block (e3.grown.block wr.heap.size (by show wr.heap.size < W.heap.size; omega) (by simp; omega))]; exact q3
          · rw [e3.grown.block w.heap.size (by show w.heap.size < W.heap.size; have := hnx.size; omega) (by simpa using k1)]; exact q1
          · exact bW.drew.grown e3.grown bW.size (fun j hj => by cases hj; have := hnx.size; omega)
      clear hg
      clear hhas hnx hlen hb F hs hD
      go_wp2_with fail
      rw [HL.out _ _ HM.out]
      simp only [Result.andThen]
      rw [Oper.upon_value]
      go_wp2_with fail
      refine (send_map _ _ a3 w.heap.size es clock _ (by simp) (by omega) (by simp) (by simp) (by simp) (by simp) (by rw [heap_if, if_neg (by omega)]; exact HM.out)).mono ?_
      rintro e w' ⟨rfl, rfl⟩
      go_wp2_with fail
      rw [HL.out _ _ ?_]
      rotate_left
      · simp only [heap_if, World.size_alloc]
        simp
      simp only [Result.andThen]
      rw [Oper.upon_value]
      go_wp2_with fail
      obtain ⟨W, hWe⟩ : ∃ W : World, W = (((wr.alloc (.cells #[.pointer none, .int .i64 0, .bool true, .map (some w.heap.size), .slice none 0 0, .slice none 0 0, .pointer none, .int .i64 a3, .string a4, .bool false] 32)).alloc (.cells #[.map (some (wr.heap.size + 1 + 1)), .bool false, .string ⟨#[]⟩] 34)).alloc (.map es clock)).alloc (.cells #[.map (some (wr.heap.size + 1 + 1)), .bool false, .string ⟨#[]⟩] 34) := ⟨_, rfl⟩
      rw [← hWe]
      have c3 : W.cell? ⟨wr.heap.size, 3, none⟩ = some (.map (some w.heap.size)) := by rw [hWe]; go_simp
      have c0 : W.cell? ⟨wr.heap.size + 1 + 1 + 1, 0, none⟩ = some (.map (some (wr.heap.size + 1 + 1))) := by rw [hWe]; go_simp
      have m1 : W.heap[w.heap.size]? = some (.map es clock) := by
        rw [hWe]; simp only [heap_if, World.size_alloc]; rw [if_neg (by omega), if_neg (by omega), if_neg (by omega), if_neg (by omega)]; exact HM.out
      have m2 : W.heap[wr.heap.size + 1 + 1]? = some (.map es clock) := by rw [hWe]; simp only [heap_if, World.size_alloc]; simp
      have bel : Below w.heap.size w W := by
        rw [hWe]; exact (((HB.out.alloc HB.out.size _).alloc (by simp; omega) _).alloc (by simp; omega) _).alloc (by simp; omega) _
      have hps : wr.heap.size < W.heap.size := by rw [hWe]; simp; omega
      have HM1 : Hid _ := m1
      have HM2 : Hid _ := m2
      have HW : Hid _ := bel
      clear hWe m1 m2 bel
      go_loop [224] (fun i => ∃ j : Nat, j ≤ k ∧ i = .int .i64 j) (fun i => k - (intOf i).toNat)
      case atStart => exact ⟨0, Nat.zero_le _, rfl⟩
      case round =>
        obtain ⟨j, hj, rfl⟩ := hrel
        by_cases hjk : j < k
        · obtain ⟨x, hx⟩ : ∃ x, x = f5 j := ⟨_, rfl⟩
          have hcx : W.cell? ⟨b5, o5 + j, none⟩ = some (.int .i64 x) := by rw [hx]; exact cell_later HW.out (l5.cell j hjk)
          have hi5 := fun W => l5.idx j W hjk
          have g1 := (HG.out j hjk W _ HM2.out).1
          have g2 := (HG.out j hjk W _ HM1.out).2
          rw [← hx] at g1 g2
          clear hx
          go_wp2
          go_round
          case rel => exact ⟨j + 1, by omega, by go_num⟩
          case measure => simp [intOf]; omega
        · by_cases h0 : 0 < k
          · have hz : (0 : Int) < (k : Int) := by omega
            obtain ⟨x, hx⟩ : ∃ x, x = f5 0 := ⟨_, rfl⟩
            have hcx : W.cell? ⟨b5, o5, none⟩ = some (.int .i64 x) := by rw [hx]; exact cell_later HW.out (l5.cell 0 h0)
            have hkey : keyOf Yba.prog 3 (.int .i64 x) = some (.int .i64 x) := by rw [hx]; exact keyOf_int_mk Yba.underlying3 (wf5 0 h0)
            have hi5 : ∀ W, (Instr.indexAt 22 (.slice a5 k cap5) (.int .i64 0)).run Yba.prog W = .ok (.pointer (some ⟨b5, o5, none⟩)) W := fun W => l5.idx 0 W h0
            obtain ⟨w2, hdel, t2, c32, m12, bel2⟩ := HDEL.out W x hkey c3 HM1.out HM2.out HW.out
            have hl2 := (HG.out 0 h0 w2.drew _ m12).1
            have hn2 := fun ty => HL.out w2 _ m12 ty
            have hcx2 : w2.cell? ⟨b5, o5, none⟩ = some (.int .i64 x) := by rw [hx]; exact cell_later bel2 (l5.cell 0 h0)
            rw [← hx] at hl2
            have HW2 : Hid _ := bel2
            clear hx bel2 t2 m12
            go_wp2
            go_region
            go_wp2
            go_region
            go_wp2
            go_ret
            exact ⟨rfl, HW2.out.drew⟩
          · have hz : ¬ (0 : Int) < (k : Int) := by omega
            clear h0
            go_wp2
            go_ret
            exact ⟨rfl, HW.out⟩


end Go.Proofs.Ybulkbvdu

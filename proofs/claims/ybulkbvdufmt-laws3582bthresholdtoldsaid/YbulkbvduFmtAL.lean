/-
  Seat b3582aF: the walk of LawS3582BThreshold.
-/
import Derived.Test.YbulkbvduFmtAK
import Derived.Test.YbulkbvduFmtAJ
namespace Go.Proofs.YbulkbvduFmt
open Go.RowKit Go.Shelf

/-- The names, i of n laid. -/
def Nms (W : World) (pb n i : Nat) : Prop :=
  ∃ cs : Array Value, W.heap[pb]? = some (.cells cs 9 (0, 0)) ∧ cs.size = n ∧ (∀ j, j < i → cs[j]? = some (.string (nm j))) ∧ ∀ j, i ≤ j → j < n → cs[j]? = some (.string ⟨#[]⟩)

theorem Nms.step {W : World} {pb n i : Nat} (o : Obj) (h : Nms W pb n i) (hi : i < n) : Nms ((W.setCell ⟨pb, i, none⟩ (.string (nm i))).alloc o) pb n (i + 1) := by
  obtain ⟨cs, h1, h2, h3, h4⟩ := h
  have hlt := (Array.getElem?_eq_some_iff.1 h1).1
  refine ⟨cs.setIfInBounds i (.string (nm i)), ?_, by simp [h2], fun j hj => ?_, fun j hj hn => ?_⟩
  · rw [Below.heap_alloc _ _ _ (by simpa [World.setCell] using hlt)]
    exact Go.heap_setCell_same W pb i _ 9 _ h1
  · by_cases e : j = i
    · subst e; simp [h2, hi]
    · rw [Array.getElem?_setIfInBounds_ne (Ne.symm e)]; exact h3 j (by omega)
  · rw [Array.getElem?_setIfInBounds_ne (by omega)]; exact h4 j (by omega) hn

theorem nm_str : ∀ a : Fin 12, strOfNums [((97 + a.val : Nat) : Int)] = nm a.val := by decide +kernel

theorem conv_nm (i : Nat) (hi : i < 12) (W : World) : (convert 23 9 (.slice (some ⟨W.heap.size, 0, none⟩) 1 1)).run Ybaf.prog (W.alloc (.cells #[.int .u8 ((97 : Int) + (i : Nat))] 5)) = .ok (.string (nm i)) (W.alloc (.cells #[.int .u8 ((97 : Int) + (i : Nat))] 5)) := by
  have h := run_convert_bytes_arg (P := Ybaf.prog) (W.alloc (.cells #[.int .u8 ((97 : Int) + (i : Nat))] 5)) 23 5 Ybaf.underlying23 Ybaf.underlying5 W.heap.size 0 1 1 [((97 + i : Nat) : Int)] rfl (fun j hj => by
    obtain rfl : j = 0 := by omega
    have e : ((97 + i : Nat) : Int) = (97 : Int) + (i : Nat) := by omega
    rw [e]
    go_simp) 9 Ybaf.underlying9
  rw [h, nm_str ⟨i, hi⟩]

set_option maxHeartbeats 4000000 in
set_option maxRecDepth 10000 in
theorem law_any (nb tb : Nat) (hnb : nb < 256) (htb : tb < 256) (w : World) (hT : Tab w) :
    Calls Ybaf.prog 3 #[.int .u8 (nb : Nat), .int .u8 (tb : Nat)] w fun e w' => e = .returned (.bool true) ∧ Below w.heap.size w w' := by
  obtain ⟨n, hn⟩ : ∃ n : Nat, n = 1 + nb % 12 := ⟨_, rfl⟩
  obtain ⟨t, ht⟩ : ∃ t : Nat, t = tb % n := ⟨_, rfl⟩
  have hn1 : 1 ≤ n := by omega
  have hn12 : n ≤ 12 := by omega
  have htn : t < n := by rw [ht]; exact Nat.mod_lt _ (by omega)
  have e1 : (1 : Int) + (nb : Int) % 12 = (n : Nat) := by omega
  have e2 : (tb : Int) % (n : Nat) = (t : Nat) := by rw [ht]; simp
  have HT : Hid (Tab w) := hT
  obtain ⟨i9, hi9, hz0, hz1, hz2⟩ := info_parts info9
  obtain ⟨mk, hmk⟩ : ∃ mk : Array Value, mk = madeCells (Value.string ⟨#[]⟩).cells (n * 1) := ⟨_, rfl⟩
  have hmks : mk.size = n := by rw [hmk, size_madeCells]; omega
  have hmkz : ∀ j, j < n → mk[j]? = some (.string ⟨#[]⟩) := fun j hj => by
    have e : (Value.string ⟨#[]⟩).cells = #[Value.string ⟨#[]⟩] := by kernel_rfl
    rw [hmk, e, Nat.mul_one, ← Array.getElem?_toList, toList_madeCells_one]
    simp [hj]
  have hmake : ∀ W, (Instr.makeSlice 22 (.int .i64 (n : Int)) (.int .i64 (n : Int))).run Ybaf.prog W = .ok (.slice (some ⟨W.heap.size, 0, none⟩) n n) (W.alloc (.cells mk 9)) := fun W => by
    have := run_make (P := Ybaf.prog) W 22 9 i9 (.string ⟨#[]⟩) Ybaf.underlying22 hi9 hz0 .i64 .i64 (n : Int) (n : Int) (by omega) (by omega) (by rw [hz2]; omega) (by omega)
    rw [hmk, this, hz1]
    simp
  have HN0 : Hid (Nms (w.alloc (.cells mk 9)) w.heap.size n 0) := ⟨mk, heap_alloc_new w _, hmks, fun j hj => by omega, fun j _ hj => hmkz j hj⟩
  clear hmk hmks hmkz hi9 hz0 hz1 hz2 hn ht hT
  go_enter Ybaf.func3, Ybaf.ntmps3
  go_wp2_with fail
  clear hmake
  go_loopw [8] (fun c wr => ∃ i : Nat, i ≤ n ∧ c = .int .i64 (i : Nat) ∧ Hid (Below w.heap.size w wr) ∧ Hid (Nms wr w.heap.size n i)) (fun c _ => n - (intOf c).toNat)
  case atStart => exact ⟨0, by omega, rfl, (Below.refl _ w).alloc (Nat.le_refl _) _, HN0.out⟩
  case round =>
    clear HN0
    obtain ⟨i, hi, rfl, HB, HN⟩ := hrel
    by_cases hlt : i < n
    · have hil : ((i : Nat) : Int) < (n : Nat) := by omega
      have hcv := conv_nm i (by omega) wr
      have hpb : w.heap.size < wr.heap.size := by obtain ⟨cs, h1, _⟩ := HN.out; exact (Array.getElem?_eq_some_iff.1 h1).1
      have hce : wr.cell? ⟨w.heap.size, i, none⟩ = some (.string ⟨#[]⟩) := by
        obtain ⟨cs, h1, h2, h3, h4⟩ := HN.out
        exact (cell_of_row wr _ i cs 9 _ h1).trans (h4 i (Nat.le_refl _) hlt)
      have hfz : wr.frozen? ⟨w.heap.size, i, none⟩ = false := by
        obtain ⟨cs, h1, h2, h3, h4⟩ := HN.out
        simp [World.frozen?, h1]
      go_wp2_with fail
      refine ⟨⟨i + 1, by omega, by simp, ?_, HN.out.step _ hlt⟩, by simp [intOf]; omega⟩
      exact (HB.out.setCell (p := ⟨w.heap.size, i, none⟩) (Nat.le_refl _) _).alloc (by have := HB.out.size; simp [World.setCell]; omega) _
    · obtain rfl : i = n := by omega
      have hil : ¬ ((i : Nat) : Int) < (i : Nat) := by omega
      have hpb : w.heap.size < wr.heap.size := by obtain ⟨cs, h1, _⟩ := HN.out; exact (Array.getElem?_eq_some_iff.1 h1).1
      have HTh : Hid _ := fun (_ : Unit) => thr_any w.heap.size i i t hn1 hn12 htn wr hpb (fun j hj => by
        obtain ⟨cs, h1, h2, h3, h4⟩ := HN.out
        exact (cell_of_row wr _ j cs 9 _ h1).trans (h3 j hj))
      go_wp2_with fail
      refine (HTh.out ()).mono ?_
      rintro e W2 ⟨q, rfl, hprof, hb2⟩
      have hbw2 : Below w.heap.size w W2 := HB.out.trans (hb2.mono HB.out.size)
      have HU : Hid _ := fun (_ : Unit) => unchecked_any wr.heap.size q i t hn12 htn W2 hprof (tab_below HT.out hbw2 (tab_lt HT.out))
      have HBW2 : Hid (Below w.heap.size w W2) := hbw2
      clear HTh hprof hb2 hbw2 HN HB
      go_wp2_with fail
      refine (HU.out ()).mono ?_
      rintro e W3 ⟨rb, ob, g, cc, p2, p3, rfl, k0, hkc, k1, k2, k3, hord, hb3⟩
      have HBW3 : Hid (Below w.heap.size w W3) := HBW2.out.trans (hb3.mono HBW2.out.size)
      have HOrd : Hid (Ord W3 ob i i) := hord
      have HKC : Hid _ := hkc
      clear HU hord hb3 hkc HBW2
      have hne : ((t : Int) + 1 != (t : Int) + 1) = false := by simp
      have hne2 : ((((t + 1 : Nat) : Int)) != (t : Int) + 1) = false := by simp
      go_wp2_with fail
      have HBo : Hid _ := fun (_ : Unit) => borders_true ob i (by omega) W3 HOrd.out
      clear HOrd hne hne2
      go_loopw [12] (fun c wr => wr = W3 ∧ ∃ j : Nat, j ≤ t + 1 ∧ c = .int .i64 (j : Nat)) (fun c _ => t + 1 - (intOf c).toNat)
      case atStart => exact ⟨rfl, 0, by omega, rfl⟩
      case round =>
        obtain ⟨rfl, j, hj, rfl⟩ := hrel
        by_cases hjt : j < t + 1
        · have hjl : ((j : Nat) : Int) ≤ (t : Nat) := by omega
          have hjl2 : ((j : Nat) : Int) < ((t + 1 : Nat) : Int) := by omega
          have hcj := HKC.out j hjt
          have hnj : (((j : Nat) : Int) != (j : Nat)) = false := by simp
          go_wp2_with fail
          refine ⟨⟨trivial, j + 1, by omega, by simp⟩, by simp [intOf]; omega⟩
        · have hjl : ¬ ((j : Nat) : Int) ≤ (t : Nat) := by omega
          go_wp2_with (go_at_call 6; refine (HBo.out ()).mono ?_; rintro e w' ⟨rfl, rfl⟩)
          go_ret
          exact ⟨rfl, HBW3.out⟩

end Go.Proofs.YbulkbvduFmt

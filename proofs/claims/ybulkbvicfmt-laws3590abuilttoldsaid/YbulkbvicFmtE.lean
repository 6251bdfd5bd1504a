/-
  Seat b3590aF: the walk of zzs3590acheck.
-/
import Derived.Test.YbulkbvicFmtD
import Derived.Laws.CopyOwn
import Derived.Deep.OwnRows
import Derived.Deep.Heap
namespace Go.Proofs.YbulkbvicFmt
open Go.RowKit Go.Extern.Stop Go.Stop Go.Extern

theorem Ybaf.info5 : (Ybaf.prog.info? 5).map (fun i => (i.zero, i.size, i.bytes)) = some (some (.int .u8 0), 1, 1) := by kernel_rfl
theorem Ybaf.size5 : (Ybaf.prog.info? 5).map (·.size) = some 1 := by kernel_rfl

/-- The text's cells, n of them. -/
def cellsOf (f : Nat → Int) (n : Nat) : List Value := (List.range n).map fun k => .int .u8 (f k)
theorem cellsOf_length (f : Nat → Int) (n : Nat) : (cellsOf f n).length = n := by simp [cellsOf]
theorem cellsOf_at {f : Nat → Int} {n k : Nat} (h : k < n) : (cellsOf f n)[k]? = some (.int .u8 (f k)) := by simp [cellsOf, h]
theorem cellsOf_of {f : Nat → Int} {n k : Nat} {v : Value} (h : (cellsOf f n)[k]? = some v) : k < n ∧ v = .int .u8 (f k) := by
  have hk : k < n := by have := (List.getElem?_eq_some_iff.1 h).1; simpa [cellsOf_length] using this
  rw [cellsOf_at hk] at h
  exact ⟨hk, (Option.some.inj h).symm⟩
theorem cellsOf_one {f : Nat → Int} {n : Nat} : ∀ v ∈ cellsOf f n, v.oneCell' = true := by
  intro v hv
  simp only [cellsOf, List.mem_map] at hv
  obtain ⟨k, _, rfl⟩ := hv
  rfl

/-- The copy of the text. -/
theorem copy_text (p : Option Addr) (n cap : Nat) (f : Nat → Int) (w : World) (ht : Txt w p n f) (zs : List Value) (hz : zs.length = n) :
    ∃ w2, (Builtin.copy_ #[22, 22] 3 #[.slice (some ⟨w.heap.size, 0, none⟩) n n, .slice p n cap]).run Ybaf.prog (w.alloc (.cells zs.toArray 5)) = .ok (goInt n) w2 ∧ Below w.heap.size w w2 ∧ Txt w2 (some ⟨w.heap.size, 0, none⟩) n f := by
  rcases ht with rfl | ⟨b, off, rfl, hlt, hc⟩
  · exact ⟨_, run_copy_none _ 22 22 3 5 _ _ _ _ _ _ Ybaf.underlying22 Ybaf.size5 (by simp), (Below.refl _ w).alloc (Nat.le_refl _) _, .inl rfl⟩
  · have hb1 : Below w.heap.size w (w.alloc (.cells zs.toArray 5)) := (Below.refl _ w).alloc (Nat.le_refl _) _
    have hg : (w.alloc (.cells zs.toArray 5)).heap[w.heap.size]? = some (.cells zs.toArray 5 (0, 0)) := by show (w.heap.push _)[w.heap.size]? = _; simp
    have hr := run_copy_row (P := Ybaf.prog) (w.alloc (.cells zs.toArray 5)) 22 22 3 5 w.heap.size 0 n n ⟨b, off, none⟩ n cap zs.toArray 5 (cellsOf f n) Ybaf.underlying22 Ybaf.size5 hg
      (by rw [cellsOf_length]; simp)
      (fun j v hj => by
        obtain ⟨hk, rfl⟩ := cellsOf_of hj
        have := cell_later hb1 (hc j hk)
        by_cases h0 : j = 0
        · subst h0; simpa [Addr.add] using this
        · simpa [Addr.add, h0] using this)
      (by rw [cellsOf_length]; simp [hz]) cellsOf_one
    rw [cellsOf_length] at hr
    refine ⟨_, hr, below_setRow hb1 (Nat.le_refl _) _, .inr ⟨w.heap.size, 0, rfl, ?_, ?_⟩⟩
    · simp [World.setRow]
    · intro k hk
      have hs := setRow_heap (w.alloc (.cells zs.toArray 5)) w.heap.size _ ((zs.toArray.toList.take 0 ++ cellsOf f n ++ zs.toArray.toList.drop (0 + n)).toArray) 5 _ hg
      simp only [World.cell?, hs]
      simp only [List.take_zero, List.nil_append, Nat.zero_add, Option.isSome_none, Bool.false_eq_true, if_false, List.getElem?_toArray]
      rw [List.getElem?_append_left (by rw [cellsOf_length]; exact hk)]
      exact cellsOf_at hk

theorem num_cells {w w' : World} {a b c d : Value} (h : Below (w.alloc (.cells #[a, b, c, d] 25)).heap.size (w.alloc (.cells #[a, b, c, d] 25)) w') :
    w'.cell? ⟨w.heap.size, 0, none⟩ = some a ∧ w'.cell? ⟨w.heap.size, 1, none⟩ = some b ∧ w'.cell? ⟨w.heap.size, 2, none⟩ = some c ∧ w'.cell? ⟨w.heap.size, 3, none⟩ = some d :=
  ⟨cell_later h (by go_simp), cell_later h (by go_simp), cell_later h (by go_simp), cell_later h (by go_simp)⟩

set_option maxHeartbeats 4000000 in
set_option maxRecDepth 100000 in
theorem check_any (p : Option Addr) (n cap : Nat) (f : Nat → Int) (hn : n ≤ 100000) (w : World) (ht : Txt w p n f) :
    Calls Ybaf.prog 9 #[.slice p n cap] w fun e w' => e = .returned (.bool true) ∧ Below w.heap.size w w' := by
  obtain ⟨zs, hzs⟩ : ∃ zs, zs = (madeCells #[.int .u8 0] n).toList := ⟨_, rfl⟩
  have hmk := run_make_row' (P := Ybaf.prog) 22 5 (.int .u8 0) 1 Ybaf.underlying22 Ybaf.info5 rfl .i64 .i64 n (by omega) (by omega)
  have hze : madeCells #[.int .u8 0] n = zs.toArray := by rw [hzs]
  rw [hze] at hmk
  obtain ⟨w2, hr2, hb2, ht2⟩ := copy_text p n cap f w ht zs (by rw [hzs]; simp [size_madeCells])
  have HT : Hid (Txt w p n f) := ht
  have HB2 : Hid (Below w.heap.size w w2) := hb2
  have HT2 : Hid (Txt w2 (some ⟨w.heap.size, 0, none⟩) n f) := ht2
  have HX : Hid _ := fun (_ : Unit) => text_any (some ⟨w.heap.size, 0, none⟩) n n f hn w2 ht2
  have HM : Hid _ := fun (W : World) (hW : Below w.heap.size w W) => model_any p n cap f hn W (ht.later hW)
  clear ht ht2 hb2 hzs hze
  go_enter Ybaf.func9, Ybaf.ntmps9
  go_wp2_with fail
  refine (HX.out ()).mono ?_
  rintro r w3 ⟨hp, hb3⟩
  have HB3 : Hid (Below w.heap.size w w3) := HB2.out.trans (hb3.mono HB2.out.size)
  have HT3 : Hid (Txt w3 (some ⟨w.heap.size, 0, none⟩) n f) := HT2.out.later hb3
  clear hb3 hr2 hmk HX HT2 HB2
  cases ho : whole f n with
  | none =>
    obtain ⟨a1, a2, a3, a4, rfl⟩ := parsed_none hp ho
    have HO : Hid _ := ho
    clear hp ho
    go_wp2_with fail
    refine (HM.out _ (HB3.out.alloc HB3.out.size _)).mono ?_
    rintro r w5 ⟨hp, hb5⟩
    obtain ⟨b1, b2, b3, b4, rfl⟩ := parsed_none hp HO.out
    obtain ⟨W6, hW6⟩ : ∃ W6, W6 = w5.alloc (.cells #[.int .i64 b1, .int .i64 b2, .int .i64 b3, .int .i64 b4] 25) := ⟨_, rfl⟩
    have HB6 : Hid (Below w.heap.size w W6) := by rw [hW6]; exact ((HB3.out.alloc HB3.out.size _).trans (hb5.mono (HB3.out.alloc HB3.out.size _).size)).alloc ((HB3.out.alloc HB3.out.size _).trans (hb5.mono (HB3.out.alloc HB3.out.size _).size)).size _
    have HT6 : Hid (Txt W6 (some ⟨w.heap.size, 0, none⟩) n f) := by rw [hW6]; exact ((HT3.out.later ((Below.refl _ _).alloc (Nat.le_refl _) _)).later hb5).later ((Below.refl _ _).alloc (Nat.le_refl _) _)
    clear hp hb5 HM HT3 HB3
    go_wp2_with fail
    rw [← hW6]
    clear hW6
    go_loopw [8] (fun c wr => ∃ k : Nat, k ≤ n ∧ c = .int .i64 k ∧ Hid (Below w.heap.size w wr) ∧ Hid (Txt wr (some ⟨w.heap.size, 0, none⟩) n f)) (fun c _ => n - (intOf c).toNat)
    case atStart => exact ⟨0, Nat.zero_le _, rfl, HB6, HT6⟩
    case round =>
      obtain ⟨k, hk, rfl, HB7, HT7⟩ := hrel
      by_cases hlt : k < n
      · have hlt' : (k : Int) < n := by omega
        rcases HT.out with h | ⟨b, off, rfl, hbl, hc⟩
        · omega
        rcases HT7.out with h | ⟨b7, off7, hp7, hbl7, hc7⟩
        · omega
        obtain ⟨rfl, rfl⟩ : w.heap.size = b7 ∧ 0 = off7 := by simpa using hp7
        obtain ⟨x, hx⟩ : ∃ x, x = f k := ⟨_, rfl⟩
        have hcx : wr.cell? ⟨b, off + k, none⟩ = some (.int .u8 x) := by rw [hx]; exact cell_later HB7.out (hc k hlt)
        have hcy : wr.cell? ⟨w.heap.size, k, none⟩ = some (.int .u8 x) := by rw [hx]; simpa using hc7 k hlt
        have hxx : (x != x) = false := by simp
        clear hc hc7 hx hp7
        go_wp2_with fail
        go_region
        go_wp2_with fail
        go_roundw
        case rel => exact ⟨k + 1, by omega, by go_num, HB7.out.drew, HT7⟩
        case measure => simp [intOf]; omega
      · have hlt' : decide ((k : Int) < n) = false := by simp; omega
        go_wp2_with fail
        go_ret
        exact ⟨rfl, HB7.out⟩
  | some q =>
    obtain ⟨a, fe, z⟩ := q
    obtain rfl := parsed_some hp ho
    have HO : Hid _ := ho
    clear hp ho
    go_wp2_with fail
    refine (HM.out _ (HB3.out.alloc HB3.out.size _)).mono ?_
    rintro r w5 ⟨hp, hb5⟩
    obtain rfl := parsed_some hp HO.out
    obtain ⟨k0, k1, k2, k3⟩ := num_cells hb5
    have hsz : w3.heap.size < w5.heap.size := by have := hb5.size; simp at this; omega
    obtain ⟨W6, hW6⟩ : ∃ W6, W6 = w5.alloc (.cells #[.int .i64 (plus f n), .int .i64 a, .int .i64 fe, .int .i64 z] 25) := ⟨_, rfl⟩
    have HB6 : Hid (Below w.heap.size w W6) := by rw [hW6]; exact ((HB3.out.alloc HB3.out.size _).trans (hb5.mono (HB3.out.alloc HB3.out.size _).size)).alloc ((HB3.out.alloc HB3.out.size _).trans (hb5.mono (HB3.out.alloc HB3.out.size _).size)).size _
    have HT6 : Hid (Txt W6 (some ⟨w.heap.size, 0, none⟩) n f) := by rw [hW6]; exact ((HT3.out.later ((Below.refl _ _).alloc (Nat.le_refl _) _)).later hb5).later ((Below.refl _ _).alloc (Nat.le_refl _) _)
    clear hp hb5 HM HT3 HB3
    go_wp2_with fail
    rw [← hW6]
    clear hW6
    go_loopw [8] (fun c wr => ∃ k : Nat, k ≤ n ∧ c = .int .i64 k ∧ Hid (Below w.heap.size w wr) ∧ Hid (Txt wr (some ⟨w.heap.size, 0, none⟩) n f)) (fun c _ => n - (intOf c).toNat)
    case atStart => exact ⟨0, Nat.zero_le _, rfl, HB6, HT6⟩
    case round =>
      obtain ⟨k, hk, rfl, HB7, HT7⟩ := hrel
      by_cases hlt : k < n
      · have hlt' : (k : Int) < n := by omega
        rcases HT.out with h | ⟨b, off, rfl, hbl, hc⟩
        · omega
        rcases HT7.out with h | ⟨b7, off7, hp7, hbl7, hc7⟩
        · omega
        obtain ⟨rfl, rfl⟩ : w.heap.size = b7 ∧ 0 = off7 := by simpa using hp7
        obtain ⟨x, hx⟩ : ∃ x, x = f k := ⟨_, rfl⟩
        have hcx : wr.cell? ⟨b, off + k, none⟩ = some (.int .u8 x) := by rw [hx]; exact cell_later HB7.out (hc k hlt)
        have hcy : wr.cell? ⟨w.heap.size, k, none⟩ = some (.int .u8 x) := by rw [hx]; simpa using hc7 k hlt
        have hxx : (x != x) = false := by simp
        clear hc hc7 hx hp7
        go_wp2_with fail
        go_region
        go_wp2_with fail
        go_roundw
        case rel => exact ⟨k + 1, by omega, by go_num, HB7.out.drew, HT7⟩
        case measure => simp [intOf]; omega
      · have hlt' : decide ((k : Int) < n) = false := by simp; omega
        go_wp2_with fail
        go_ret
        exact ⟨rfl, HB7.out⟩

end Go.Proofs.YbulkbvicFmt

/-
  Seat b3590aF: the walks of parseNumber and textNumber.
-/
import Derived.Test.YbulkbvicFmtB
import Derived.BigRegion
namespace Go.Proofs.YbulkbvicFmt
open Go.RowKit Go.Extern.Stop Go.Stop Go.Extern

/-- The number that begins at i and goes to the text's end. -/
def wholeAt (f : Nat → Int) (n i : Nat) : Option (Nat × Nat × Nat) :=
  match number f n i with
  | none => none
  | some (a, b, z) => if z = n then some (a, b, z) else none
theorem whole_eq (f : Nat → Int) (n : Nat) : whole f n = wholeAt f n (plus f n) := rfl
theorem wholeAt_none {f : Nat → Int} {n i : Nat} (h : number f n i = none) : wholeAt f n i = none := by unfold wholeAt; rw [h]
theorem wholeAt_end (f : Nat → Int) (n : Nat) : wholeAt f n n = none := wholeAt_none (number_end f n)
theorem wholeAt_some {f : Nat → Int} {n i a b : Nat} (h : number f n i = some (a, b, n)) : wholeAt f n i = some (a, b, n) := by unfold wholeAt; rw [h]; simp
theorem wholeAt_not {f : Nat → Int} {n i a b z : Nat} (h : number f n i = some (a, b, z)) (hz : ¬ z = n) : wholeAt f n i = none := by unfold wholeAt; rw [h]; simp [hz]

/-- What parseNumber and textNumber hand back. -/
def Parsed (o : Option (Nat × Nat × Nat)) (i : Nat) (e : Ending) : Prop :=
  match o with
  | some (a, fe, z) => e = .returned (.tuple #[num4 i a fe z, .bool true])
  | none => ∃ a b c d : Int, e = .returned (.tuple #[.agg #[.int .i64 a, .int .i64 b, .int .i64 c, .int .i64 d], .bool false])

set_option maxHeartbeats 4000000 in
theorem parse_end (p : Option Addr) (n cap : Nat) (f : Nat → Int) (w : World) :
    Calls Ybaf.prog 17 #[.slice p n cap, .int .i64 n] w fun e w' => Parsed (wholeAt f n n) n e ∧ Below w.heap.size w w' := by
  have HW : Hid _ := wholeAt_end f n
  go_enter Ybaf.func17, Ybaf.ntmps17
  go_wp2_with fail
  exact bodyPost_ret (v := .tuple #[z4, .bool false]) (by simp [results, Ybaf.results17, go_sem]) rfl ⟨by rw [HW.out]; exact ⟨0, 0, 0, 0, rfl⟩, (Below.refl _ w).alloc (Nat.le_refl _) _⟩

theorem scan_none {f : Nat → Int} {n i : Nat} {e : Ending} (h : ScanPost f n i e) (hn : number f n i = none) : ∃ p, e = .returned (.tuple #[z4, .iface 119 (.pointer (some p))]) := by
  unfold ScanPost at h; rw [hn] at h; exact h
theorem scan_some {f : Nat → Int} {n i x fe z : Nat} {e : Ending} (h : ScanPost f n i e) (hn : number f n i = some (x, fe, z)) : e = .returned (.tuple #[num4 i x fe z, .nilIface]) := by
  unfold ScanPost at h; rw [hn] at h; exact h

set_option maxHeartbeats 4000000 in
theorem parse_in (b off n cap : Nat) (f : Nat → Int) (i0 : Nat) (hi : i0 < n) (hn : n ≤ 100000) (w : World) (hb : b < w.heap.size) (hc : ∀ k, k < n → w.cell? ⟨b, off + k, none⟩ = some (.int .u8 (f k))) :
    Calls Ybaf.prog 17 #[.slice (some ⟨b, off, none⟩) n cap, .int .i64 i0] w fun e w' => Parsed (wholeAt f n i0) i0 e ∧ Below w.heap.size w w' := by
  have HC : Hid _ := hc
  clear hc
  have hne : ((i0 : Int) == (n : Int)) = false := by simp; omega
  have HS : Hid _ := fun (W : World) (hW : Below w.heap.size w W) => scan_any b off n cap f i0 hi hn W (Nat.lt_of_lt_of_le hb hW.size) (fun k hk => cell_later hW (HC.out k hk))
  have HB : Hid _ := (Below.refl w.heap.size w).alloc (Nat.le_refl _) Z4
  cases hnum : number f n i0 with
  | none =>
    have HN : Hid _ := hnum
    clear hnum
    go_enter Ybaf.func17, Ybaf.ntmps17
    go_wp2_with fail
    refine (HS.out _ HB.out).mono ?_
    rintro r w' ⟨hp, hbw⟩
    obtain ⟨a, rfl⟩ := scan_none hp HN.out
    clear hp
    obtain ⟨⟨k0, k1, k2, k3⟩, f0, f1, f2, f3⟩ := res_cells hbw
    have hsz : w.heap.size < w'.heap.size := by have := hbw.size; simp at this; omega
    have hsz2 : ¬ w.heap.size = w'.heap.size := by omega
    go_wp2_with fail
    go_region
    go_wp2_with fail
    refine bodyPost_ret (v := .tuple #[z4, .bool false]) (by simp [results, Ybaf.results17, go_sem, k0, k1, k2, k3, hsz]) rfl ⟨by rw [wholeAt_none HN.out]; exact ⟨0, 0, 0, 0, rfl⟩, ?_⟩
    exact ((bel_err hbw _ _ _ _).alloc (bel_err hbw _ _ _ _).size _).drew
  | some r =>
    obtain ⟨x, fe, z⟩ := r
    have HN : Hid _ := hnum
    clear hnum
    by_cases hz : z = n
    · subst hz
      go_enter Ybaf.func17, Ybaf.ntmps17
      go_wp2_with fail
      refine (HS.out _ HB.out).mono ?_
      rintro r w' ⟨hp, hbw⟩
      obtain rfl := scan_some hp HN.out
      clear hp
      obtain ⟨⟨k0, k1, k2, k3⟩, f0, f1, f2, f3⟩ := res_cells hbw
      have hsz : w.heap.size < w'.heap.size := by have := hbw.size; simp at this; omega
      have hsz2 : ¬ w.heap.size = w'.heap.size := by omega
      go_wp2_with fail
      go_region
      go_wp2_with fail
      refine bodyPost_ret (v := .tuple #[num4 i0 x fe z, .bool true]) (by simp [results, Ybaf.results17, go_sem, k0, k1, k2, k3, hsz]) rfl ⟨by rw [wholeAt_some HN.out]; rfl, ?_⟩
      exact ((bel_err hbw _ _ _ _).alloc (bel_err hbw _ _ _ _).size _).drew
    · have hq : ((z : Int) == (n : Int)) = false := by simp; omega
      have HZ : Hid _ := wholeAt_not HN.out hz
      clear hz
      go_enter Ybaf.func17, Ybaf.ntmps17
      go_wp2_with fail
      refine (HS.out _ HB.out).mono ?_
      rintro r w' ⟨hp, hbw⟩
      obtain rfl := scan_some hp HN.out
      clear hp
      obtain ⟨⟨k0, k1, k2, k3⟩, f0, f1, f2, f3⟩ := res_cells hbw
      have hsz : w.heap.size < w'.heap.size := by have := hbw.size; simp at this; omega
      have hsz2 : ¬ w.heap.size = w'.heap.size := by omega
      go_wp2_with fail
      go_region
      go_wp2_with fail
      refine bodyPost_ret (v := .tuple #[num4 i0 x fe z, .bool false]) (by simp [results, Ybaf.results17, go_sem, k0, k1, k2, k3, hsz]) rfl ⟨by rw [HZ.out]; exact ⟨_, _, _, _, rfl⟩, ?_⟩
      exact ((bel_err hbw _ _ _ _).alloc (bel_err hbw _ _ _ _).size _).drew

theorem parsed_some {o : Option (Nat × Nat × Nat)} {i x fe z : Nat} {e : Ending} (h : Parsed o i e) (ho : o = some (x, fe, z)) : e = .returned (.tuple #[num4 i x fe z, .bool true]) := by
  rw [ho] at h; exact h
theorem parsed_none {o : Option (Nat × Nat × Nat)} {i : Nat} {e : Ending} (h : Parsed o i e) (ho : o = none) : ∃ a b c d : Int, e = .returned (.tuple #[.agg #[.int .i64 a, .int .i64 b, .int .i64 c, .int .i64 d], .bool false]) := by
  rw [ho] at h; exact h

theorem plus_lt {f : Nat → Int} {n : Nat} (h : 0 < n) : plus f n < n := by unfold plus; split <;> omega
/-- What the two first bytes say of the beginning. -/
theorem plus_ways (b off n : Nat) (f : Nat → Int) (h0 : 0 < n) (w : World) (hc : ∀ k, k < n → w.cell? ⟨b, off + k, none⟩ = some (.int .u8 (f k))) :
    ((¬ (1 : Int) < n ∧ plus f n = 0) ∨ ((1 : Int) < n ∧ (((f 0 == 43) = false ∧ plus f n = 0) ∨ ((f 0 == 43) = true ∧ ∃ x1, w.cell? ⟨b, off + 1, none⟩ = some (.int .u8 x1) ∧ (((x1 != 45) = true ∧ plus f n = 1) ∨ ((x1 != 45) = false ∧ plus f n = 0)))))) := by
  unfold plus
  by_cases h1 : 1 < n
  · right
    refine ⟨by omega, ?_⟩
    by_cases h2 : f 0 = 43
    · right
      refine ⟨by rw [h2]; rfl, f 1, hc 1 h1, ?_⟩
      by_cases h3 : f 1 = 45
      · right; exact ⟨by rw [h3]; rfl, by simp [h3]⟩
      · left; exact ⟨by rw [bne_iff_ne]; exact h3, by simp [h1, h2, h3]⟩
    · left; exact ⟨by simpa using h2, by simp [h2]⟩
  · left; exact ⟨by omega, by simp [h1]⟩

set_option maxHeartbeats 4000000 in
theorem text_nil (p : Option Addr) (cap : Nat) (f : Nat → Int) (w : World) :
    Calls Ybaf.prog 10 #[.slice p 0 cap] w fun e w' => Parsed (whole f 0) (plus f 0) e ∧ Below w.heap.size w w' := by
  have HW : Hid (whole f 0 = none) := wholeAt_end f 0
  have HS : Hid _ := fun (W : World) => parse_end p 0 cap f W
  go_enter Ybaf.func10, Ybaf.ntmps10
  go_wp2_with fail
  refine (HS.out _).mono ?_
  rintro r w' ⟨hp, hbw⟩
  obtain ⟨a1, a2, a3, a4, rfl⟩ := parsed_none hp (wholeAt_end f 0)
  clear hp
  obtain ⟨⟨k0, k1, k2, k3⟩, f0, f1, f2, f3⟩ := res_cells hbw
  go_wp2_with fail
  refine bodyPost_ret (v := .tuple #[.agg #[.int .i64 a1, .int .i64 a2, .int .i64 a3, .int .i64 a4], .bool false]) (by simp [results, Ybaf.results10, go_sem, k0, k1, k2, k3]) rfl ⟨by rw [HW.out]; exact ⟨_, _, _, _, rfl⟩, ?_⟩
  exact bel_err hbw _ _ _ _

set_option maxHeartbeats 4000000 in
theorem text_in (b off n cap : Nat) (f : Nat → Int) (h0 : 0 < n) (hn : n ≤ 100000) (w : World) (hb : b < w.heap.size) (hc : ∀ k, k < n → w.cell? ⟨b, off + k, none⟩ = some (.int .u8 (f k))) :
    Calls Ybaf.prog 10 #[.slice (some ⟨b, off, none⟩) n cap] w fun e w' => Parsed (whole f n) (plus f n) e ∧ Below w.heap.size w w' := by
  have HC : Hid _ := hc
  obtain ⟨x0, hx0⟩ : ∃ x, x = f 0 := ⟨_, rfl⟩
  have hc0 : w.cell? ⟨b, off, none⟩ = some (.int .u8 x0) := by rw [hx0]; exact hc 0 h0
  obtain ⟨i0, hie⟩ : ∃ i, i = plus f n := ⟨_, rfl⟩
  have HI0 : Hid (i0 = plus f n) := hie
  have hi0 : i0 < n := by rw [hie]; exact plus_lt h0
  have HS : Hid _ := plus_ways b off n f h0 w hc
  rw [← hie, ← hx0] at HS
  have HI1 : Hid (i0 = 0 ∨ i0 = 1) := by show _ ∨ _; rw [hie]; unfold plus; split <;> simp
  clear hc hx0 hie
  have HP : Hid _ := fun (W : World) (hW : Below w.heap.size w W) => parse_in b off n cap f i0 hi0 hn W (Nat.lt_of_lt_of_le hb hW.size) (fun k hk => cell_later hW (HC.out k hk))
  have HB : Hid _ := (Below.refl w.heap.size w).alloc (Nat.le_refl _) Z4
  go_enter Ybaf.func10, Ybaf.ntmps10
  go_upto_region 2 with fail
  go_cut [4, 19] (fun s s2 wx => s = .int .i64 0 ∧ s2 = .bool (i0 == 1) ∧ wx = w.alloc Z4)
  case first =>
    rcases HS.out with ⟨h, rfl⟩ | ⟨h, ⟨h', rfl⟩ | ⟨h', x1, hc1, ⟨h'', rfl⟩ | ⟨h'', rfl⟩⟩⟩
    · have hd : decide ((1 : Int) < n) = false := by simpa using h
      clear h
      go_wp2_with fail
      go_meet
      case rel => exact ⟨rfl, rfl, rfl⟩
    · go_wp2_with fail
      go_meet
      case rel => exact ⟨rfl, rfl, rfl⟩
    · go_wp2_with fail
      go_meet
      case rel => exact ⟨rfl, rfl, rfl⟩
    · go_wp2_with fail
      go_meet
      case rel => exact ⟨rfl, rfl, rfl⟩
  case rest =>
    obtain ⟨rfl, rfl, rfl⟩ := hcut
    clear HS hc0
    go_upto_if 19 with fail
    go_cut [4] (fun s wx => s = .int .i64 (i0 : Int) ∧ wx = w.alloc Z4)
    case first =>
      rcases HI1.out with rfl | rfl
      · go_wp2_with fail
        go_meet
        case rel => exact ⟨rfl, rfl⟩
      · go_wp2_with fail
        go_meet
        case rel => exact ⟨rfl, rfl⟩
    case rest =>
      obtain ⟨rfl, rfl⟩ := hcut
      clear HI1
      go_wp2_with fail
      refine (HP.out _ HB.out).mono ?_
      rintro r w' ⟨hp, hbw⟩
      obtain ⟨⟨k0, k1, k2, k3⟩, f0, f1, f2, f3⟩ := res_cells hbw
      cases ho : wholeAt f n i0 with
      | none =>
        obtain ⟨a1, a2, a3, a4, rfl⟩ := parsed_none hp ho
        have HO : Hid (whole f n = none) := by show _ = _; rw [whole_eq, ← HI0.out]; exact ho
        clear hp ho
        go_wp2_with fail
        exact bodyPost_ret (v := .tuple #[.agg #[.int .i64 a1, .int .i64 a2, .int .i64 a3, .int .i64 a4], .bool false]) (by simp [results, Ybaf.results10, go_sem, k0, k1, k2, k3]) rfl ⟨by rw [HO.out]; exact ⟨_, _, _, _, rfl⟩, bel_err hbw _ _ _ _⟩
      | some q =>
        obtain ⟨x, fe, z⟩ := q
        obtain rfl := parsed_some hp ho
        have HO : Hid (whole f n = some (x, fe, z)) := by show _ = _; rw [whole_eq, ← HI0.out]; exact ho
        clear hp ho
        go_wp2_with fail
        exact bodyPost_ret (v := .tuple #[num4 i0 x fe z, .bool true]) (by simp [results, Ybaf.results10, go_sem, k0, k1, k2, k3]) rfl ⟨by rw [HO.out, ← HI0.out]; rfl, bel_err hbw _ _ _ _⟩

end Go.Proofs.YbulkbvicFmt

/-
  Seat b3590aF: the leaves of LawS3590BFirstWins: cmp.Compare, BinarySearchFunc at one document, doc, place, lineRef.
-/
import Derived.Test.YbulkbvicFmtA
import Derived.BigRegion
import Derived.BigQuiet
import Derived.Deep.RegionWith
import Derived.Deep.RegionHeld3
import Derived.Deep.DeepCutAuto
namespace Go.Proofs.YbulkbvicFmt
open Go.RowKit Go.Extern.Stop Go.Stop Go.Extern

def shape3 : List UInt8 := [5, 3, 0, 0, 0, 0, 0, 0, 0, 105, 110, 116]
def shape9 : List UInt8 := [12, 6, 0, 0, 0, 0, 0, 0, 0, 115, 116, 114, 105, 110, 103]
theorem act3_100 (name : String) (x : Value) (w : World) : (FmtCalls.act name false 100 false (.iface 3 x)).run Ybaf.prog w = .ok (.closed false) w := by kernel_rfl
theorem op3_100 (name : String) (x : Int) (w : World) : (FmtStop.operand name false 100 false (.iface 3 (.int .i64 x))).run Ybaf.prog w = .ok (shape3, Go.Extern.Stop.digits 8 (x % 2 ^ 64).toNat) w := by kernel_rfl
theorem act9_115 (name : String) (x : Value) (w : World) : (FmtCalls.act name false 115 false (.iface 9 x)).run Ybaf.prog w = .ok (.closed false) w := by kernel_rfl
theorem op9_115 (name : String) (x : ByteArray) (w : World) : (FmtStop.operand name false 115 false (.iface 9 (.string x))).run Ybaf.prog w = .ok (shape9, FmtStop.pack x.data.toList) w := by kernel_rfl

abbrev posV (l c : Int) : Value := .agg #[.int .i64 l, .int .i64 c]
abbrev docV : Value := .agg #[.string ⟨#[102]⟩, .int .i64 (-9223372036854775808), .int .i64 0]

/-- The line table of one document whose first line is the least int. -/
def Tab (w : World) (b : Nat) : Prop := w.cell? ⟨b, 0, none⟩ = some (.string ⟨#[102]⟩) ∧ w.cell? ⟨b, 1, none⟩ = some (.int .i64 (-9223372036854775808)) ∧ w.cell? ⟨b, 2, none⟩ = some (.int .i64 0)
theorem Tab.later {w w' : World} {b : Nat} (h : Tab w b) (hb : Below w.heap.size w w') : Tab w' b :=
  ⟨cell_later hb h.1, cell_later hb h.2.1, cell_later hb h.2.2⟩

set_option maxHeartbeats 1000000 in
theorem isNaN_any (x : Int) (w : World) : Calls Ybaf.prog 50 #[.int .i64 x] w fun e w' => e = .returned (.bool false) ∧ w' = w := by
  go_enter Ybaf.func50, Ybaf.ntmps50
  go_wp2
  go_ret
  exact ⟨by simp, rfl⟩

set_option maxHeartbeats 1000000 in
theorem compare_lt (x y : Int) (h : x < y) (w : World) : Calls Ybaf.prog 39 #[.int .i64 x, .int .i64 y] w fun e w' => e = .returned (.int .i64 (-1)) ∧ w' = w := by
  go_enter Ybaf.func39, Ybaf.ntmps39
  go_wp2_with (go_at_call 50; refine (isNaN_any _ _).mono ?_; rintro r w' ⟨rfl, rfl⟩)
  go_ret
  exact ⟨rfl, rfl⟩
set_option maxHeartbeats 1000000 in
theorem compare_eq (x : Int) (w : World) : Calls Ybaf.prog 39 #[.int .i64 x, .int .i64 x] w fun e w' => e = .returned (.int .i64 0) ∧ w' = w := by
  have h : ¬ x < x := by omega
  go_enter Ybaf.func39, Ybaf.ntmps39
  go_wp2_with (go_at_call 50; refine (isNaN_any _ _).mono ?_; rintro r w' ⟨rfl, rfl⟩)
  go_ret
  exact ⟨rfl, rfl⟩

set_option maxHeartbeats 1000000 in
theorem doc1_lt (l : Int) (h : -9223372036854775808 < l) (w : World) : Calls Ybaf.prog 38 #[docV, .int .i64 l] w fun e w' => e = .returned (.int .i64 (-1)) ∧ Below w.heap.size w w' := by
  go_enter Ybaf.func38, Ybaf.ntmps38
  go_wp2_with (go_at_call 39; refine (compare_lt _ _ h _).mono ?_; rintro r w' ⟨rfl, rfl⟩)
  go_ret
  exact ⟨rfl, (Below.refl _ w).alloc (Nat.le_refl _) _⟩
set_option maxHeartbeats 1000000 in
theorem doc1_eq (w : World) : Calls Ybaf.prog 38 #[docV, .int .i64 (-9223372036854775808)] w fun e w' => e = .returned (.int .i64 0) ∧ Below w.heap.size w w' := by
  go_enter Ybaf.func38, Ybaf.ntmps38
  go_wp2_with (go_at_call 39; refine (compare_eq _ _).mono ?_; rintro r w' ⟨rfl, rfl⟩)
  go_ret
  exact ⟨rfl, (Below.refl _ w).alloc (Nat.le_refl _) _⟩


set_option maxHeartbeats 1000000 in
set_option maxRecDepth 10000 in
theorem bs_lt (b : Nat) (l : Int) (h : -9223372036854775808 < l) (w : World) (ht : Tab w b) :
    Calls Ybaf.prog 37 #[.slice (some ⟨b, 0, none⟩) 1 1, .int .i64 l, .func (.func 38) #[] #[]] w fun e w' => e = .returned (.tuple #[.int .i64 1, .bool false]) ∧ Below w.heap.size w w' := by
  have HT : Hid (Tab w b) := ht
  clear ht
  go_enter Ybaf.func37, Ybaf.ntmps37
  go_wp2_with fail
  go_loopw [9, 10] (fun c9 c10 wr => Hid (Below w.heap.size w wr) ∧ ((c9 = .int .i64 0 ∧ c10 = .int .i64 1) ∨ (c9 = .int .i64 1 ∧ c10 = .int .i64 1))) (fun c9 c10 _ => ((intOf c10) - (intOf c9)).toNat)
  case atStart => exact ⟨Below.refl _ w, .inl ⟨rfl, rfl⟩⟩
  case round =>
    obtain ⟨HB, ⟨rfl, rfl⟩ | ⟨rfl, rfl⟩⟩ := hrel
    · obtain ⟨k0, k1, k2⟩ := HT.out.later HB.out
      go_wp2_with (go_at_call 38; refine (doc1_lt l h _).mono ?_; rintro r w' ⟨rfl, hb⟩; have HB2 : Hid (Below w.heap.size w w') := HB.out.trans (hb.mono HB.out.size); clear hb)
      go_roundw
      case rel => exact ⟨HB2, .inr ⟨rfl, rfl⟩⟩
      case measure => simp [intOf]
    · obtain ⟨k0, k1, k2⟩ := HT.out.later HB.out
      go_wp2_with (go_at_call 38; refine (doc1_lt l h _).mono ?_; rintro r w' ⟨rfl, hb⟩; have HB2 : Hid (Below w.heap.size w w') := HB.out.trans (hb.mono HB.out.size); clear hb)
      exact bodyPost_ret (v := .tuple #[.int .i64 1, .bool false]) (by simp [results, Ybaf.results37, go_sem]) rfl ⟨rfl, HB.out⟩

set_option maxHeartbeats 1000000 in
set_option maxRecDepth 10000 in
theorem bs_eq (b : Nat)  (w : World) (ht : Tab w b) :
    Calls Ybaf.prog 37 #[.slice (some ⟨b, 0, none⟩) 1 1, .int .i64 (-9223372036854775808), .func (.func 38) #[] #[]] w fun e w' => e = .returned (.tuple #[.int .i64 0, .bool true]) ∧ Below w.heap.size w w' := by
  have HT : Hid (Tab w b) := ht
  clear ht
  go_enter Ybaf.func37, Ybaf.ntmps37
  go_wp2_with fail
  go_loopw [9, 10] (fun c9 c10 wr => Hid (Below w.heap.size w wr) ∧ ((c9 = .int .i64 0 ∧ c10 = .int .i64 1) ∨ (c9 = .int .i64 0 ∧ c10 = .int .i64 0))) (fun c9 c10 _ => ((intOf c10) - (intOf c9)).toNat)
  case atStart => exact ⟨Below.refl _ w, .inl ⟨rfl, rfl⟩⟩
  case round =>
    obtain ⟨HB, ⟨rfl, rfl⟩ | ⟨rfl, rfl⟩⟩ := hrel
    · obtain ⟨k0, k1, k2⟩ := HT.out.later HB.out
      go_wp2_with (go_at_call 38; refine (doc1_eq _).mono ?_; rintro r w' ⟨rfl, hb⟩; have HB2 : Hid (Below w.heap.size w w') := HB.out.trans (hb.mono HB.out.size); clear hb)
      go_roundw
      case rel => exact ⟨HB2, .inr ⟨rfl, rfl⟩⟩
      case measure => simp [intOf]
    · obtain ⟨k0, k1, k2⟩ := HT.out.later HB.out
      go_wp2_with (go_at_call 38; refine (doc1_eq _).mono ?_; rintro r w' ⟨rfl, hb⟩; have HB2 : Hid (Below w.heap.size w w') := HB.out.trans (hb.mono HB.out.size); clear hb)
      exact bodyPost_ret (v := .tuple #[.int .i64 0, .bool true]) (by simp [results, Ybaf.results37, go_sem]) rfl ⟨rfl, HB2.out⟩

set_option maxHeartbeats 1000000 in
set_option maxRecDepth 10000 in
theorem doc_any (b : Nat) (l c : Int) (h : -9223372036854775808 ≤ l) (w : World) (ht : Tab w b) :
    Calls Ybaf.prog 30 #[.slice (some ⟨b, 0, none⟩) 1 1, posV l c] w fun e w' => e = .returned (.int .i64 0) ∧ Below w.heap.size w w' := by
  have HT : Hid (Tab w b) := ht
  have HB : Hid (Below w.heap.size w (w.alloc (.cells #[.int .i64 l, .int .i64 c] 49))) := (Below.refl _ w).alloc (Nat.le_refl _) _
  clear ht
  by_cases hl : -9223372036854775808 < l
  · go_enter Ybaf.func30, Ybaf.ntmps30
    go_wp2_with (go_at_call 37; refine (bs_lt b l hl _ (HT.out.later HB.out)).mono ?_; rintro r w' ⟨rfl, hb⟩)
    go_ret
    exact ⟨rfl, HB.out.trans (hb.mono HB.out.size)⟩
  · obtain rfl : l = -9223372036854775808 := by omega
    go_enter Ybaf.func30, Ybaf.ntmps30
    go_wp2_with (go_at_call 37; refine (bs_eq b _ (HT.out.later HB.out)).mono ?_; rintro r w' ⟨rfl, hb⟩)
    go_ret
    exact ⟨rfl, HB.out.trans (hb.mono HB.out.size)⟩

set_option maxHeartbeats 1000000 in
set_option maxRecDepth 10000 in
theorem place_any (b : Nat) (l c : Int) (h : -9223372036854775808 ≤ l) (w : World) (ht : Tab w b) :
    Calls Ybaf.prog 29 #[.slice (some ⟨b, 0, none⟩) 1 1, posV l c] w fun e w' => (∃ a, e = .returned (.tuple #[.string ⟨#[102]⟩, posV a c])) ∧ Below w.heap.size w w' := by
  have HT : Hid (Tab w b) := ht
  have HB : Hid (Below w.heap.size w ((w.alloc (.cells #[.int .i64 l, .int .i64 c] 49)).alloc (.cells #[.int .i64 0, .int .i64 0] 49))) := ((Below.refl _ w).alloc (Nat.le_refl _) _).alloc (by simp) _
  clear ht
  go_enter Ybaf.func29, Ybaf.ntmps29
  go_wp2_with fail
  refine (doc_any b l c h _ (HT.out.later HB.out)).mono ?_
  rintro r w' ⟨rfl, hb⟩
  have HB2 : Hid (Below w.heap.size w w') := HB.out.trans (hb.mono HB.out.size)
  obtain ⟨k0, k1, k2⟩ := HT.out.later HB2.out
  have l0 : w'.cell? ⟨w.heap.size, 0, none⟩ = some (.int .i64 l) := cell_later hb (by go_simp)
  have l1 : w'.cell? ⟨w.heap.size, 1, none⟩ = some (.int .i64 c) := cell_later hb (by go_simp)
  have m0 : w'.cell? ⟨w.heap.size + 1, 0, none⟩ = some (.int .i64 0) := cell_later hb (by go_simp)
  have m1 : w'.cell? ⟨w.heap.size + 1, 1, none⟩ = some (.int .i64 0) := cell_later hb (by go_simp)
  have hsz : w.heap.size + 1 + 1 ≤ w'.heap.size := by have := hb.size; simpa using this
  have hs1 : w.heap.size < w'.heap.size := by omega
  have hs2 : w.heap.size + 1 < w'.heap.size := by omega
  have g0 : w'.frozen? ⟨w.heap.size + 1, 0, none⟩ = false := by rw [hb.frozen (by simp)]; go_simp
  have g1 : w'.frozen? ⟨w.heap.size + 1, 1, none⟩ = false := by rw [hb.frozen (by simp)]; go_simp
  clear hb hsz
  go_wp2_with fail
  go_region
  go_wp2_with fail
  refine bodyPost_ret (v := .tuple #[.string ⟨#[102]⟩, posV (wrap64 (wrap64 (l + 9223372036854775808) + 1)) c]) (by simp [results, Ybaf.results29, go_sem, m0, m1, hs2]) rfl ⟨⟨_, rfl⟩, ?_⟩
  have h3 := (HB2.out.setCell (p := ⟨w.heap.size + 1, 0, none⟩) (Nat.le_succ _) (.int .i64 (wrap64 (wrap64 (l + 9223372036854775808) + 1)))).setCell (p := ⟨w.heap.size + 1, 1, none⟩) (Nat.le_succ _) (.int .i64 c)
  exact (h3.alloc h3.size _).drew

set_option maxHeartbeats 2000000 in
set_option maxRecDepth 10000 in
theorem lineRef_any (b : Nat) (l c l' c' : Int) (h : -9223372036854775808 ≤ l) (h' : -9223372036854775808 ≤ l') (w : World) (ht : Tab w b) :
    Calls Ybaf.prog 19 #[.slice (some ⟨b, 0, none⟩) 1 1, posV l c, posV l' c'] w fun e w' => (∃ s, e = .returned (.string s)) ∧ Below w.heap.size w w' := by
  have HT : Hid (Tab w b) := ht
  have HB : Hid (Below w.heap.size w ((w.alloc (.cells #[.int .i64 l, .int .i64 c] 49)).alloc (.cells #[.int .i64 l', .int .i64 c'] 49))) := ((Below.refl _ w).alloc (Nat.le_refl _) _).alloc (by simp) _
  clear ht
  go_enter Ybaf.func19, Ybaf.ntmps19
  go_wp2_with fail
  refine (place_any b l c h _ (HT.out.later HB.out)).mono ?_
  rintro r w' ⟨⟨a, rfl⟩, hb⟩
  have HB2 : Hid (Below w.heap.size w w') := HB.out.trans (hb.mono HB.out.size)
  have l0 : w'.cell? ⟨w.heap.size, 0, none⟩ = some (.int .i64 l) := cell_later hb (by go_simp)
  have l1 : w'.cell? ⟨w.heap.size, 1, none⟩ = some (.int .i64 c) := cell_later hb (by go_simp)
  have m0 : w'.cell? ⟨w.heap.size + 1, 0, none⟩ = some (.int .i64 l') := cell_later hb (by go_simp)
  have m1 : w'.cell? ⟨w.heap.size + 1, 1, none⟩ = some (.int .i64 c') := cell_later hb (by go_simp)
  have hsz : w.heap.size + 1 + 1 ≤ w'.heap.size := by have := hb.size; simpa using this
  have hs1 : w.heap.size < w'.heap.size := by omega
  have hs2 : w.heap.size + 1 < w'.heap.size := by omega
  clear hb hsz
  go_upto_region 2 with fail
  obtain ⟨W2, hW2⟩ : ∃ W2, W2 = w'.alloc (.cells #[.int .i64 a, .int .i64 c] 49) := ⟨_, rfl⟩
  rw [← hW2]
  have hbe : Below w'.heap.size w' W2 := by rw [hW2]; exact (Below.refl _ w').alloc (Nat.le_refl _) _
  have HB3 : Hid (Below w.heap.size w W2) := HB2.out.trans (hbe.mono HB2.out.size)
  obtain ⟨k0, k1, k2⟩ := HT.out.later HB3.out
  have q0 := cell_later hbe l0
  have q1 := cell_later hbe l1
  have r0 := cell_later hbe m0
  have r1 := cell_later hbe m1
  have s0 : W2.cell? ⟨w'.heap.size, 0, none⟩ = some (.int .i64 a) := by rw [hW2]; go_simp
  clear hbe l0 l1 m0 m1 hW2 hs1 hs2
  go_region_held3 (fun wx => wx.cell? ⟨b, 0, none⟩ = some (.string ⟨#[102]⟩) ∧ wx.cell? ⟨b, 1, none⟩ = some (.int .i64 (-9223372036854775808)) ∧ wx.cell? ⟨b, 2, none⟩ = some (.int .i64 0) ∧ wx.cell? ⟨w.heap.size, 0, none⟩ = some (.int .i64 l) ∧ wx.cell? ⟨w.heap.size, 1, none⟩ = some (.int .i64 c) ∧ wx.cell? ⟨w.heap.size + 1, 0, none⟩ = some (.int .i64 l') ∧ wx.cell? ⟨w.heap.size + 1, 1, none⟩ = some (.int .i64 c'))
    ((go_split_ands; refine ⟨?_, ?_, ?_, ?_, ?_, ?_, ?_⟩ <;> first | exact cell_later (by assumption) (by assumption) | go_keep))
    (first
      | (go_at_call_of 30 (Value.agg #[.int .i64 l, .int .i64 c]); refine (doc_any b l c h _ ⟨by simp [*], by simp [*], by simp [*]⟩).mono ?_; rintro e w1 ⟨rfl, hb1⟩)
      | (go_at_call_of 30 (Value.agg #[.int .i64 l', .int .i64 c']); refine (doc_any b l' c' h' _ ⟨by simp [*], by simp [*], by simp [*]⟩).mono ?_; rintro e w2 ⟨rfl, hb2⟩))
  have hb1' : Below W2.heap.size W2 w1 := ⟨hb1.os, hb1.tape, hb1.output, hb1.size, hb1.block⟩
  have HB4 : Hid (Below w.heap.size w w2) := (HB3.out.trans (hb1'.mono HB3.out.size)).trans (hb2.mono (Nat.le_trans HB3.out.size hb1'.size))
  have s1 : w2.cell? ⟨w'.heap.size, 0, none⟩ = some (.int .i64 a) := cell_later hb2 (cell_later hb1' s0)
  clear hb1 hb2 hb1' k0 k1 k2 q0 q1 r0 r1 s0 HB2 HB3 HB HT
  rename_i hHeld
  clear hHeld
  have h1 := call28
  have h2 := guard28
  have h3 : FmtStop.printed? ⟨#[108, 105, 110, 101, 32, 37, 100]⟩ 1 = some [(0, 100, false)] := by kernel_rfl
  have h4 := act3_100
  have h5 := op3_100
  go_wp2_with fail
  apply rows_value nextTurns
  case hr =>
    go_simp
    exact ⟨rfl, rfl⟩
  case h =>
    go_wp2
    go_ret
    exact ⟨⟨_, rfl⟩, (HB4.out.alloc HB4.out.size _).drew⟩

end Go.Proofs.YbulkbvicFmt

/-
  Seat b3590aF: declareOnce at a name that is there already.
-/
import Derived.Test.YbulkbvicFmtM
namespace Go.Proofs.YbulkbvicFmt
open Go.RowKit Go.Extern.Stop Go.Stop Go.Extern Go.Maps

theorem Kept.cell {L : List Nat} {w w' : World} (h : Kept L w w') {b o : Nat} {v : Value} (hc : w.cell? ⟨b, o, none⟩ = some v) (hb : b ∉ L) : w'.cell? ⟨b, o, none⟩ = some v := by
  rw [World.cell?_of_block (w := w) (a := ⟨b, o, none⟩) (h.block b (lt_of_cell hc) hb)]; exact hc

theorem err_back {rb B m : Nat} {l c : Int} {fv : Value} {xs cs : List Value} {w W w' : World} (hb : Below w.heap.size w W) (h : ErrPost rb B m l c fv xs cs W w') : ErrPost rb B m l c fv xs cs w w' := by
  obtain ⟨g, cap, eb, s, h1, h2, h3, h4, h5⟩ := h
  exact ⟨g, cap, eb, s, h1, h2, h3, Nat.le_trans hb.size h4, ⟨h5.os.trans hb.os, h5.tape.trans hb.tape, h5.output.trans hb.output, Nat.le_trans hb.size h5.size, fun k hk hkn => (h5.block k (Nat.lt_of_lt_of_le hk hb.size) hkn).trans (hb.block k hk)⟩⟩

theorem err_lines {rb B m : Nat} {l c : Int} {fv v : Value} {xs cs : List Value} {w w' : World} (h : ErrPost rb B m l c fv xs cs w w') (hc : cs[0]? = some v) : w'.cell? ⟨rb, 0, none⟩ = some v := by
  obtain ⟨g, cap, eb, s, h1, _⟩ := h
  simp [World.cell?, h1, hc]
theorem err_kept {rb B m : Nat} {l c : Int} {fv : Value} {xs cs : List Value} {w w' : World} (h : ErrPost rb B m l c fv xs cs w w') : Kept (rb :: fv.ownBlock.toList) w w' := by
  obtain ⟨g, cap, eb, s, _, _, _, _, h1⟩ := h
  exact h1

theorem late {w W w1 : World} (hb : Below w.heap.size w W) (hb1 : Below W.drew.heap.size W.drew w1) (o : Obj) : Below w.heap.size w (w1.alloc o) := by
  have h1 : Below W.heap.size W w1 := ⟨hb1.os, hb1.tape, hb1.output, hb1.size, hb1.block⟩
  have h2 := hb.trans (h1.mono hb.size)
  exact h2.alloc h2.size o
theorem held {rb B m lb p p' : Nat} {l c a a' b b' : Int} {fv v v1 v2 v3 : Value} {xs cs : List Value} {W w' : World} (h : ErrPost rb B m l c fv xs cs W w') (hc : cs[0]? = some v) (h1 : lb ∉ rb :: fv.ownBlock.toList) (h2 : p ∉ rb :: fv.ownBlock.toList) (h3 : p' ∉ rb :: fv.ownBlock.toList)
    (hh : W.cell? ⟨rb, 0, none⟩ = some v ∧ W.cell? ⟨lb, 0, none⟩ = some v1 ∧ W.cell? ⟨lb, 1, none⟩ = some v2 ∧ W.cell? ⟨lb, 2, none⟩ = some v3 ∧ W.cell? ⟨p, 0, none⟩ = some (.int .i64 a) ∧ W.cell? ⟨p, 1, none⟩ = some (.int .i64 a') ∧ W.cell? ⟨p', 0, none⟩ = some (.int .i64 b) ∧ W.cell? ⟨p', 1, none⟩ = some (.int .i64 b')) :
    w'.cell? ⟨rb, 0, none⟩ = some v ∧ w'.cell? ⟨lb, 0, none⟩ = some v1 ∧ w'.cell? ⟨lb, 1, none⟩ = some v2 ∧ w'.cell? ⟨lb, 2, none⟩ = some v3 ∧ w'.cell? ⟨p, 0, none⟩ = some (.int .i64 a) ∧ w'.cell? ⟨p, 1, none⟩ = some (.int .i64 a') ∧ w'.cell? ⟨p', 0, none⟩ = some (.int .i64 b) ∧ w'.cell? ⟨p', 1, none⟩ = some (.int .i64 b') := by
  have k := err_kept h
  obtain ⟨_, g1, g2, g3, g4, g5, g6, g7⟩ := hh
  exact ⟨err_lines h hc, k.cell g1 h1, k.cell g2 h1, k.cell g3 h1, k.cell g4 h2, k.cell g5 h2, k.cell g6 h3, k.cell g7 h3⟩

abbrev whF : ByteArray := ⟨#[116, 121, 112, 101, 32, 37, 115]⟩
theorem cat_msg : whF ++ (⟨#[32, 105, 115, 32, 100, 101, 99, 108, 97, 114, 101, 100, 32, 116, 119, 105, 99, 101, 59, 32, 102, 105, 114, 115, 116, 32, 111, 110, 32, 37, 115]⟩ : ByteArray) = msgF := by rfl

set_option maxHeartbeats 4000000 in
set_option maxRecDepth 100000 in
theorem declare_old (rb lb mb n B m : Nat) (D : DataW Unit) (name : ByteArray) (l c l0 c0 : Int) (fv : Value) (xs cs : List Value) (w : World) (hs : name.size ≤ maxLen) (hown : w.ownsMap Ybaf.prog 9 posElem mb n D)
    (hat : D.atKey (.string name.data.toList) (posD 0 0) = posD l0 c0) (hhas : Maps.has D (.string name.data.toList) = true)
    (hl : -9223372036854775808 ≤ l) (hl0 : -9223372036854775808 ≤ l0)
    (hm : m ≤ 2000) (hB : B ≤ w.heap.size) (hr : w.heap[rb]? = some (.cells cs.toArray 42 (0, 0))) (hc0 : cs[0]? = some (.slice (some ⟨lb, 0, none⟩) 1 1)) (hc1 : cs[1]? = some fv) (hfv : w.ownsRow B 51 1 fv m xs)
    (ht : Tab w lb) (hlb : lb ≠ rb) (hlf : some lb ≠ fv.ownBlock) :
    Calls Ybaf.prog 12 #[.pointer (some ⟨rb, 0, none⟩), .map (some mb), .string whF, .string name, posV l c] w fun e w' => e = .returned (.bool false) ∧ ErrPost rb B m l c fv xs cs w w' := by
  have HOWN : Hid (w.ownsMap Ybaf.prog 9 posElem mb n D) := hown
  have hcat := cat_msg
  have hrb : rb < w.heap.size := (Array.getElem?_eq_some_iff.1 hr).1
  have hcl : w.cell? ⟨rb, 0, none⟩ = some (.slice (some ⟨lb, 0, none⟩) 1 1) := by simp [World.cell?, hr, hc0]
  obtain ⟨k0, k1, k2⟩ := ht
  have hlbs : lb < w.heap.size := lt_of_cell k0
  obtain ⟨W, hW⟩ : ∃ W, W = (w.alloc (.cells #[.int .i64 l, .int .i64 c] 49)).alloc (.cells #[.int .i64 l0, .int .i64 c0] 49) := ⟨_, rfl⟩
  have hbW : Below w.heap.size w W := by rw [hW]; exact ((Below.refl _ w).alloc (Nat.le_refl _) _).alloc (by simp) _
  have q0 := cell_later hbW hcl
  have q1 := cell_later hbW k0
  have q2 := cell_later hbW k1
  have q3 := cell_later hbW k2
  have p0 : W.cell? ⟨w.heap.size, 0, none⟩ = some (.int .i64 l) := by rw [hW]; go_simp
  have p1 : W.cell? ⟨w.heap.size, 1, none⟩ = some (.int .i64 c) := by rw [hW]; go_simp
  have p2 : W.cell? ⟨w.heap.size + 1, 0, none⟩ = some (.int .i64 l0) := by rw [hW]; go_simp
  have p3 : W.cell? ⟨w.heap.size + 1, 1, none⟩ = some (.int .i64 c0) := by rw [hW]; go_simp
  have HBW : Hid (Below w.heap.size w W) := hbW
  have HB : Hid (B ≤ w.heap.size) := hB
  have HR : Hid _ := hr
  have HFV : Hid (w.ownsRow B 51 1 fv m xs) := hfv
  have HF : Hid (∀ k, w.heap.size ≤ k → k ∉ rb :: fv.ownBlock.toList) := by
    intro k hk
    simp only [List.mem_cons, not_or]
    refine ⟨by omega, ?_⟩
    rcases hfv.2 with ⟨rfl, _⟩ | ⟨g', cap', cur', rfl, _, hg', _⟩
    · simp [Value.ownBlock]
    · have := (Array.getElem?_eq_some_iff.1 hg').1
      simp [Value.ownBlock]
      omega
  have HLB : Hid (lb ∉ rb :: fv.ownBlock.toList) := by
    show _ ∉ _
    simp only [List.mem_cons, not_or]
    refine ⟨hlb, fun h => hlf ?_⟩
    simpa using (Option.mem_toList.1 h).symm
  have HC0 : Hid _ := hc0
  have HC1 : Hid _ := hc1
  clear hown hbW hB hr hfv hlb hlf hcl k0 k1 k2 hc0 hc1
  go_enter Ybaf.func12, Ybaf.ntmps12
  go_wp2_with (at_lookup; refine wpList_lookup_pos rfl _ _ rfl mb n D rfl (HOWN.out.alloc _) name rfl hs l0 c0 hat true hhas ?_)
  rw [← hW]
  clear hW hat hhas
  go_region_held3 (fun wx => wx.cell? ⟨rb, 0, none⟩ = some (.slice (some ⟨lb, 0, none⟩) 1 1) ∧ wx.cell? ⟨lb, 0, none⟩ = some (.string ⟨#[102]⟩) ∧ wx.cell? ⟨lb, 1, none⟩ = some (.int .i64 (-9223372036854775808)) ∧ wx.cell? ⟨lb, 2, none⟩ = some (.int .i64 0) ∧ wx.cell? ⟨w.heap.size, 0, none⟩ = some (.int .i64 l) ∧ wx.cell? ⟨w.heap.size, 1, none⟩ = some (.int .i64 c) ∧ wx.cell? ⟨w.heap.size + 1, 0, none⟩ = some (.int .i64 l0) ∧ wx.cell? ⟨w.heap.size + 1, 1, none⟩ = some (.int .i64 c0))
    ((go_split_ands; refine ⟨?_, ?_, ?_, ?_, ?_, ?_, ?_, ?_⟩ <;> first | assumption | exact cell_later (by assumption) (by assumption) | go_keep))
    (first
      | (go_at_call 19; refine (lineRef_any lb l0 c0 l c hl0 hl _ ⟨by simp [*], by simp [*], by simp [*]⟩).mono ?_; rintro e w1 ⟨⟨s2, rfl⟩, hb1⟩)
      | (go_at_call 18; have hbc : Below w.heap.size w (w1.alloc (.cells #[.iface 9 (.string name), .iface 9 (.string s2)] 20)) := late HBW.out hb1 _; refine (errorf_any rb B m l c fv xs cs name s2 w1.heap.size _ hm (Nat.le_trans HB.out hbc.size) ((hbc.block rb hrb).trans HR.out) HC1.out (own_below hbc HFV.out) (by go_simp) (by go_simp)).mono ?_; rintro e w2 ⟨rfl, he⟩; have HE : Hid (ErrPost rb B m l c fv xs cs w w2) := err_back hbc he; obtain ⟨e0, e1, e2, e3, e4, e5, e6, e7⟩ := held he HC0.out HLB.out (HF.out _ (Nat.le_refl _)) (HF.out _ (Nat.le_succ _)) (by assumption); clear he hbc))
  clear e0 e1 e2 e3 e4 e5 e6 e7 q0 q1 q2 q3 p0 p1 p2 p3 hb1
  go_wp2_with fail
  go_ret
  exact ⟨rfl, HE.out⟩

/-- The law's table of names. -/
def nm (x : Int) : ByteArray := if x % 5 = 0 then ⟨#[]⟩ else if x % 5 = 1 then ⟨#[97]⟩ else if x % 5 = 2 then ⟨#[98]⟩ else if x % 5 = 3 then ⟨#[97, 98]⟩ else ⟨#[65]⟩
theorem nm_size (x : Int) : (nm x).size ≤ maxLen := by
  unfold nm
  split
  · decide
  · split
    · decide
    · split
      · decide
      · split <;> decide

set_option maxHeartbeats 1000000 in
theorem name_any (x : Int) (h : 0 ≤ x ∧ x ≤ 255) (w : World) : Calls Ybaf.prog 11 #[.int .u8 x] w fun e w' => e = .returned (.string (nm x)) ∧ w' = w := by
  obtain ⟨s, hs⟩ : ∃ s, s = nm x := ⟨_, rfl⟩
  rw [← hs]
  have HW : Hid (((x % 5 == 0) = true ∧ s = ⟨#[]⟩) ∨ ((x % 5 == 0) = false ∧ (x % 5 == 1) = true ∧ s = ⟨#[97]⟩) ∨ ((x % 5 == 0) = false ∧ (x % 5 == 1) = false ∧ (x % 5 == 2) = true ∧ s = ⟨#[98]⟩) ∨
      ((x % 5 == 0) = false ∧ (x % 5 == 1) = false ∧ (x % 5 == 2) = false ∧ (x % 5 == 3) = true ∧ s = ⟨#[97, 98]⟩) ∨ ((x % 5 == 0) = false ∧ (x % 5 == 1) = false ∧ (x % 5 == 2) = false ∧ (x % 5 == 3) = false ∧ s = ⟨#[65]⟩)) := by
    show _ ∨ _
    rw [hs]
    unfold nm
    by_cases e0 : x % 5 = 0
    · left; simp [e0]
    · by_cases e1 : x % 5 = 1
      · right; left; simp [e1]
      · by_cases e2 : x % 5 = 2
        · right; right; left; simp [e2]
        · by_cases e3 : x % 5 = 3
          · right; right; right; left; simp [e3]
          · right; right; right; right; simp [e0, e1, e2, e3]
  clear hs
  rcases HW.out with ⟨h0, rfl⟩ | ⟨h0, h1, rfl⟩ | ⟨h0, h1, h2, rfl⟩ | ⟨h0, h1, h2, h3, rfl⟩ | ⟨h0, h1, h2, h3, rfl⟩
  all_goals
    go_enter Ybaf.func11, Ybaf.ntmps11
    go_wp2_with fail
    go_ret
    exact ⟨rfl, rfl⟩

end Go.Proofs.YbulkbvicFmt

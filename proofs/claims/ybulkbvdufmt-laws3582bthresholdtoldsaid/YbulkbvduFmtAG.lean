/-
  Seat b3582aF: NewSubsetIndex.
-/
import Derived.Test.YbulkbvduFmtAF
import Derived.Test.YbulkbvduFmtT
namespace Go.Proofs.YbulkbvduFmt
open Go.RowKit Go.Shelf

theorem SetRow.below {W W' : World} {blk off n : Nat} {D : Nat → Prop} {ms : List Nat} (h : SetRow W blk off D ms) (hb : Below n W W') (hblk : blk < n) (hd : ∀ b, D b → b < n) : SetRow W' blk off D ms :=
  h.keep hb.size (hb.block _ hblk) (fun b _ hD => hb.block b (hd b hD))

set_option maxHeartbeats 4000000 in
set_option maxRecDepth 10000 in
theorem newIndex_any (b off c : Nat) (D : Nat → Prop) (ms : List Nat) (w : World) (h : SetRow w b off D ms) (hm : 0 < ms.length) (hm2 : ms.length ≤ 4096) (hT : Tab w) :
    Calls Ybaf.prog 17 #[.slice (some ⟨b, off, none⟩) ms.length c] w fun e w' => (∃ a, e = .returned (.pointer (some a))) ∧ Below w.heap.size w w' := by
  have HC : Hid _ := fun (_ : Unit) => clone_row b off c ms w D hm hm2 h
  obtain ⟨m, hml⟩ : ∃ m, m = ms.length := ⟨_, rfl⟩
  rw [← hml] at HC ⊢
  have hmm : m ≤ 4096 := by omega
  have HML : Hid _ := hml
  clear h hml
  go_enter Ybaf.func17, Ybaf.ntmps17
  go_wp2_with fail
  refine (HC.out ()).mono ?_
  rintro e W1 ⟨g, cap, rfl, hg, hg1, hr1, hb1⟩
  have hso := sort_any g 0 cap _ (by omega) ms W1 hr1 hg1 (by omega)
  rw [← HML.out] at hso
  have HSo : Hid _ := fun (_ : Unit) => hso
  clear hso HC
  go_wp2_with fail
  refine (HSo.out ()).mono ?_
  rintro e W2 ⟨rfl, ms', hp, _, hr2, hgr⟩
  have hs1 := hb1.size
  have hs2 := hgr.size
  have hbw : Below w.heap.size w W2 := hb1.grown hgr hs1 (fun k e => by cases e; exact hg)
  have htb : Tab W2 := tab_below hT hbw (tab_lt hT)
  have htl : Ybaf.tz64_ren.g 1 < W2.heap.size := by have := tab_lt hT; omega
  obtain ⟨xb, hxb⟩ : ∃ xb, xb = W2.heap.size := ⟨_, rfl⟩
  have hlp : ms'.length = m := by rw [hp.length_eq, HML.out]
  have HR : Hid (SetRow W2 g 0 (fun b => b < w.heap.size) ms') := hr2
  have HBW : Hid (Below w.heap.size w W2) := hbw
  have HTB : Hid (Tab W2) := htb
  clear HSo hr1 hr2 hgr hbw htb hp hb1
  go_wp2_with fail
  obtain ⟨W3, hW3⟩ : ∃ W3, W3 = W2.alloc (.cells #[.slice none 0 0, .slice none 0 0, .map none, .slice none 0 0] 79) := ⟨_, rfl⟩
  have hb3 : Below W2.heap.size W2 W3 := by rw [hW3]; exact (Below.refl _ _).alloc (Nat.le_refl _) _
  have hI3 : Idx W3 xb 0 (.slice none 0 0) (.slice none 0 0) (.map none) (.slice none 0 0) [] [] [] 0 := by
    refine ⟨by rw [hW3, hxb]; exact heap_alloc_new W2 _, World.ownsRow_nil _ _ _ _, World.ownsRow_nil _ _ _ _, by omega, .inl rfl, World.ownsRow_nil _ _ _ _, by simp, fun q u hq => by simp at hq, fun q q' b u u' hq => by simp at hq⟩
  rw [← hW3, ← hxb]
  have HI3 : Hid _ := hI3
  have HB3 : Hid (Below xb W2 W3) := by rw [hxb]; exact hb3
  have hwx : w.heap.size ≤ xb := by omega
  have hgx : g < xb := by omega
  have htx : Ybaf.tz64_ren.g 1 < xb := by omega
  clear hW3 hb3 hI3 hxb hs1 hs2 htl
  go_loopw [15] (fun c wr => ∃ i : Nat, i ≤ m ∧ c = .int .i64 (i : Nat) ∧ Hid (Below xb W2 wr) ∧ Hid (∃ v0 v1 mv v3 vs0 vs1 us m1, Idx wr xb i v0 v1 mv v3 vs0 vs1 us m1)) (fun c _ => m - (intOf c).toNat)
  case atStart => exact ⟨0, by omega, rfl, HB3.out, _, _, _, _, _, _, _, _, HI3.out⟩
  case round =>
    clear HI3 HB3
    obtain ⟨i, him, rfl, HBr, HIr⟩ := hrel
    by_cases hlt : i < m
    · have hil : ((i : Nat) : Int) < (m : Nat) := by omega
      have hrow : SetRow wr g 0 (fun b => b < w.heap.size) ms' := HR.out.below HBr.out hgx (fun b hb => by omega)
      obtain ⟨p, len, cp, hce, _, hwd, hdd⟩ := hrow i (ms'[i]'(by omega)) (List.getElem?_eq_getElem _)
      rw [Nat.zero_add] at hce
      obtain ⟨x, hx⟩ : ∃ x : Nat, x = ms'[i]'(by omega) := ⟨_, rfl⟩
      rw [← hx] at hwd
      obtain ⟨v0, v1, mv, v3, vs0, vs1, us, m1, hI⟩ := HIr.out
      have htr : Tab wr := tab_below HTB.out HBr.out htx
      have HAdd : Hid _ := fun (W : World) (hb : Below wr.heap.size wr W) => add_any xb i p len cp x (by have := HML.out; omega) W (hI.later hb) (hwd.later hb) (tab_below htr hb (tab_lt htr)) (fun a ha _ => by have := (hdd a ha).1; omega) htx
      have hxr : xb < wr.heap.size := hI.lt
      clear hrow hwd hdd hI htr hx HIr
      go_wp2_with (go_at_call 29; refine (HAdd.out _ ((Below.refl _ wr).alloc (Nat.le_refl _) _)).mono ?_; rintro e W5 ⟨rfl, hb5, hI5⟩)
      have HB5 : Hid (Below xb W2 W5) := (HBr.out.trans (((Below.refl _ wr).alloc (Nat.le_refl _) _).mono (by omega))).trans hb5
      have HI5 : Hid _ := hI5
      exact ⟨⟨i + 1, by omega, by simp, HB5.out, HI5.out⟩, by simp [intOf]; omega⟩
    · obtain rfl : i = m := by omega
      have hil : ¬ ((i : Nat) : Int) < (i : Nat) := by omega
      go_wp2_with fail
      go_ret
      refine ⟨⟨_, rfl⟩, HBW.out.trans (HBr.out.mono hwx)⟩

end Go.Proofs.YbulkbvduFmt

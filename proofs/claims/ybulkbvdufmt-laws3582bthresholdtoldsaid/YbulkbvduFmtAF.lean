/-
  Seat b3582aF: the walk of (*SubsetIndex).add.
-/
import Derived.Test.YbulkbvduFmtAE
namespace Go.Proofs.YbulkbvduFmt
open Go.RowKit Go.Shelf Go.Maps

attribute [local go_sem] Oper.semAt_some

theorem info49 : (Ybaf.prog.info? 49).map (fun i => (i.zero, i.size, i.bytes)) = some (some (.slice none 0 0), 1, 24) := by kernel_rfl
theorem shl_any (i : Nat) (W : World) : (Op.shift BinOp.shl IntKind.u64 1 IntKind.i64 ((i : Int).tmod 64)).run Ybaf.prog W = .ok (.int .u64 (IntKind.u64.wrap (2 ^ ((i : Int) % 64).toNat))) W := by
  have e : ((i : Int).tmod 64) = ((i % 64 : Nat) : Int) := by
    rw [Int.tmod_eq_emod_of_nonneg (by omega)]; omega
  have hn : ¬ ((i % 64 : Nat) : Int) < 0 := by omega
  rw [e]
  simp [go_sem]
theorem info91 : (Ybaf.prog.info? 91).map (fun i => (i.zero, i.size, i.bytes)) = some (some (.int .u64 0), 1, 8) := by kernel_rfl
theorem info51x : (Ybaf.prog.info? 51).map (fun i => (i.zero, i.size, i.bytes)) = some (some (.agg #[.slice none 0 0]), 1, 24) := by kernel_rfl
/-- How long the slice is that lies q-th in the slice in a field. -/
def sl2 (b q : Nat) (W : World) : Nat := match W.cell? ⟨b, 3, none⟩ with | some (.slice (some a) _ _) => sl a.block q W | _ => 0

set_option maxHeartbeats 4000000 in
set_option maxRecDepth 100000 in
theorem add_any (xb i : Nat) (sp : Option Addr) (len cap x : Nat) (hi : i < 4096) (w : World) {v0 v1 mv v3 : Value} {vs0 vs1 us : List Value} {m1 : Nat} (hI : Idx w xb i v0 v1 mv v3 vs0 vs1 us m1) (hw : Wd w sp len (x : Int)) (hT : Tab w) (hsl : ∀ a, sp = some a → len = 1 → a.block < xb) (htl : Ybaf.tz64_ren.g 1 < xb) :
    Calls Ybaf.prog 29 #[.pointer (some ⟨xb, 0, none⟩), setV sp len cap] w fun e w' => e = .returned (.tuple #[]) ∧ Below xb w w' ∧ ∃ v0 v1 mv v3 vs0 vs1 us m1, Idx w' xb (i + 1) v0 v1 mv v3 vs0 vs1 us m1 := by
  have hxlt := hI.lt
  have k2 := hI.c2
  have f2 := hI.fz 2
  have hx1 : xb < w.heap.size + 1 := by omega
  have hx2 : xb < w.heap.size + 1 + 1 := by omega
  have HI : Hid (Idx w xb i v0 v1 mv v3 vs0 vs1 us m1) := hI
  have hmm := @run_makeMap Ybaf.prog
  have hqn := fun w r => run_eql_map_nil (P := Ybaf.prog) w 76 _ _ r Ybaf.underlying76
  clear hI
  refine (callsIn_wide (n := 5)).1 ?_
  refine callsIn_of_wp_marks Ybaf.func29 rfl trivial ?_ rfl
  refine wpIn_wide.2 ?_
  simp only [Ybaf.ntmps29, List.size_toArray, List.length_cons, List.length_nil, Nat.reduceAdd, Nat.reduceSub, Array.replicate_succ, Array.replicate_zero, List.push_toArray, List.append_toArray, List.nil_append, List.cons_append]
  obtain ⟨r, rfl⟩ : ∃ r, mv = .map r := by
    rcases HI.out.keys with rfl | ⟨mb, es, clock, rfl, hmb, hmap, hkeys⟩
    · exact ⟨_, rfl⟩
    · exact ⟨_, rfl⟩
  go_upto_if 10 with fail
  go_cut [4] from 11 to 14 (fun s wc => s = undef ∧ ∃ mb, Idx wc xb i v0 v1 (.map (some mb)) v3 vs0 vs1 us m1 ∧ Boxed wc w.heap.size 33 (.pointer (some ⟨xb, 0, none⟩)) ∧ Boxed wc (w.heap.size + 1) 51 (.slice sp len cap) ∧ Below xb w wc)
  case first =>
    rcases r with _ | mb
    · go_wp2_with fail
      go_meet
      case rel =>
        have hs : (w.setCell ⟨xb, 2, none⟩ (.map (some (w.heap.size + 1 + 1)))).heap.size = w.heap.size := by simp [World.setCell]
        refine ⟨rfl, w.heap.size + 1 + 1, HI.out.keyed _ (by omega) ?_ ?_, ?_, ?_, ?_⟩
        · have := heap_alloc_new (((w.setCell ⟨xb, 2, none⟩ (.map (some (w.heap.size + 1 + 1)))).alloc (.cells #[.pointer (some ⟨xb, 0, none⟩)] 33)).alloc (.cells #[.slice sp len cap] 51)) (.map #[] 0)
          simpa [hs] using this
        · exact (((Below.refl _ _).alloc (by rw [hs]; exact Nat.le_refl _) _).alloc (by simp [hs]) _).alloc (by simp [hs]; omega) _
        · have := Boxed.new (w.setCell ⟨xb, 2, none⟩ (.map (some (w.heap.size + 1 + 1)))) 33 (.pointer (some ⟨xb, 0, none⟩))
          rw [hs] at this
          exact (this.alloc _).alloc _
        · have := Boxed.new ((w.setCell ⟨xb, 2, none⟩ (.map (some (w.heap.size + 1 + 1)))).alloc (.cells #[.pointer (some ⟨xb, 0, none⟩)] 33)) 51 (.slice sp len cap)
          rw [World.size_alloc, hs] at this
          exact this.alloc _
        · exact ((((Below.refl xb w).setCell (p := ⟨xb, 2, none⟩) (Nat.le_refl _) _).alloc (by rw [hs]; omega) _).alloc (by simp [hs]; omega) _).alloc (by simp [hs]; omega) _
    · go_wp2_with fail
      go_meet
      case rel =>
        have hb : Below w.heap.size w ((w.alloc (.cells #[.pointer (some ⟨xb, 0, none⟩)] 33)).alloc (.cells #[.slice sp len cap] 51)) := ((Below.refl _ w).alloc (Nat.le_refl _) _).alloc (by simp) _
        refine ⟨rfl, mb, HI.out.later hb, (Boxed.new w 33 _).alloc _, ?_, hb.mono (by omega)⟩
        have := Boxed.new (w.alloc (.cells #[.pointer (some ⟨xb, 0, none⟩)] 33)) 51 (.slice sp len cap)
        rw [World.size_alloc] at this
        exact this
  case rest =>
    obtain ⟨rfl, mb, hI', hbx, hbs, hbel⟩ := hcut
    obtain ⟨p, hp⟩ : ∃ p, p = w.heap.size := ⟨_, rfl⟩
    have HV0 : Hid (∀ b, v0.ownBlock = some b → b < p) := fun b hb => by
      obtain ⟨cs, hc⟩ := own_ty HI.out.sets hb
      have := (Array.getElem?_eq_some_iff.1 hc).1
      omega
    obtain ⟨mb', es, clock, hmv, hmb, hmap, hkeys⟩ := hI'.keys.resolve_left (by simp)
    obtain rfl : mb = mb' := by simpa using hmv
    have hwc : Wd wc sp len (x : Int) := wd_below hw hbel hsl
    have hTc : Tab wc := tab_below hT hbel htl
    have c2 := hI'.c2
    have q33 := hbx.cell
    have q51 := hbs.cell
    rw [← hp] at hbx hbs q33 q51 ⊢
    have hxp : xb < p := by omega
    have HF : Hid (xb < p ∧ xb ≤ w.heap.size ∧ p + 1 < wc.heap.size) := ⟨hxp, by omega, hbs.lt⟩
    have HKy : Hid _ := fun (W : World) (hb : Below wc.heap.size wc W) => key_any sp len cap x W (hwc.later hb)
    have HPut : Hid _ := fun (W : World) (hb : Below wc.heap.size wc W) (s : ByteArray) (hs : s.size ≤ maxLen) => put_any 76 4 Ybaf.underlying76 W mb clock es ((hb.block mb (Array.getElem?_eq_some_iff.1 hmap).1).trans hmap) hkeys s hs (.bool true)
    have HZ : Hid (∀ (W : World) (_ : Below wc.heap.size wc W) (es' : Array MapEntry) (c' : Nat), (ChangeMaps.setBlock W mb (.map es' c')).cell? ⟨p, 0, none⟩ = some (.pointer (some ⟨xb, 0, none⟩)) ∧ (ChangeMaps.setBlock W mb (.map es' c')).cell? ⟨xb, 2, none⟩ = some (.map (some mb)) ∧ (ChangeMaps.setBlock W mb (.map es' c')).cell? ⟨p + 1, 0, none⟩ = some (.slice sp len cap)) := fun W hb es' c' => by
      have hm2 : W.heap[mb]? = some (.map es clock) := (hb.block mb (Array.getElem?_eq_some_iff.1 hmap).1).trans hmap
      have key : ∀ (a : Addr) (v : Value), wc.cell? a = some v → (ChangeMaps.setBlock W mb (.map es' c')).cell? a = some v := fun a v ha => by
        have hne : a.block ≠ mb := fun e => by simp [World.cell?, e, hmap] at ha
        exact (World.cell?_of_block (ChangeMaps.heap_setBlock_other hm2 _ hne)).trans (cell_later hb ha)
      exact ⟨key _ _ q33, key _ _ c2, key _ _ q51⟩
    have HI' : Hid (Idx wc xb i v0 v1 (.map (some mb)) v3 vs0 vs1 us m1) := hI'
    have HBX : Hid (Boxed wc p 33 (.pointer (some ⟨xb, 0, none⟩))) := hbx
    have HBS : Hid (Boxed wc (p + 1) 51 (.slice sp len cap)) := hbs
    have HBEL : Hid (Below xb w wc) := hbel
    have HMAP : Hid (wc.heap[mb]? = some (.map es clock) ∧ StrKeys es ∧ xb < mb) := ⟨hmap, hkeys, hmb⟩
    have HW : Hid (Wd wc sp len (x : Int) ∧ Tab wc) := ⟨hwc, hTc⟩
    clear hmm hqn hI' hbx hbs hbel hmap hkeys hwc hTc hw hT hmv hmb k2 f2 hx1 hx2 hxlt HI hp hxp
    go_upto_region 3 with fail
    refine wp_region_noPanic ?_
    go_region_held_law (fun w' => w'.cell? ⟨p, 0, none⟩ = some (.pointer (some ⟨xb, 0, none⟩)) ∧ w'.cell? ⟨xb, 2, none⟩ = some (.map (some mb)) ∧ w'.cell? ⟨p + 1, 0, none⟩ = some (.slice sp len cap))
      ((go_split_ands; refine ⟨?_, ?_, ?_⟩ <;> first | assumption | exact cell_later (by assumption) (by assumption) | go_keep))
      (first | (go_at_call 40; refine (HKy.out _ (Below.refl _ _).drew).mono ?_; rintro e w2 ⟨qa, qm, qc, s, rfl, hss, hcv, hb2⟩; have hcv2 := hcv w2 (Below.refl _ _); have hb2' : Below wc.heap.size wc w2 := ⟨hb2.os, hb2.tape, hb2.output, hb2.size, hb2.block⟩; obtain ⟨es', c', hpt, hes'⟩ := HPut.out w2 hb2' s hss; obtain ⟨z0, z1, z2⟩ := HZ.out w2 hb2' es' c'))
    obtain ⟨W3, hW3⟩ : ∃ W3, W3 = ChangeMaps.setBlock w2 mb (.map es' c') := ⟨_, rfl⟩
    have hmap2 : w2.heap[mb]? = some (.map es clock) := (hb2'.block mb (Array.getElem?_eq_some_iff.1 HMAP.out.1).1).trans HMAP.out.1
    have hk' : StrKeys es' := fun e he => by
      rcases hes' e he with h | ⟨e0, he0, h⟩
      · exact ⟨s, hss, h⟩
      · obtain ⟨s0, h1, h2⟩ := HMAP.out.2.1 e0 he0; exact ⟨s0, h1, h.trans h2⟩
    have hI3 : Idx W3 xb i v0 v1 (.map (some mb)) v3 vs0 vs1 us m1 := by rw [hW3]; exact (HI'.out.later hb2').put hmap2 HMAP.out.2.2 hk'
    have hk3 : Kpt [mb] w2 W3 := by rw [hW3]; exact kpt_put hmap2 _
    have hnp : mb ≠ p := fun e => by have := HBX.out; rw [e] at hmap2; rw [(hb2'.block p HBX.out.lt).trans HBX.out] at hmap2; cases hmap2
    have hnp1 : mb ≠ p + 1 := fun e => by rw [e] at hmap2; rw [(hb2'.block (p + 1) HBS.out.lt).trans HBS.out] at hmap2; cases hmap2
    have hbx3 : Boxed W3 p 33 (.pointer (some ⟨xb, 0, none⟩)) := box_kpt ((hb2'.block p HBX.out.lt).trans HBX.out) hk3 (by simpa using Ne.symm hnp)
    have hbs3 : Boxed W3 (p + 1) 51 (.slice sp len cap) := box_kpt ((hb2'.block (p + 1) HBS.out.lt).trans HBS.out) hk3 (by simpa using Ne.symm hnp1)
    have hbel3 : Below xb w W3 := (HBEL.out.trans (hb2'.mono (by have := HI'.out.lt; omega))).trans (hk3.below (by have := HMAP.out.2.2; simp; omega) (by have := HI'.out.lt; have := hb2'.size; omega))
    have hwd3 : Wd W3 sp len (x : Int) := wd_below (HW.out.1.later hb2') (hk3.below (n := xb) (by have := HMAP.out.2.2; simp; omega) (by have := HI'.out.lt; have := hb2'.size; omega)) hsl
    have htb3 : Tab W3 := tab_below (tab_below HW.out.2 hb2' (tab_lt HW.out.2)) (hk3.below (n := xb) (by have := HMAP.out.2.2; simp; omega) (by have := HI'.out.lt; have := hb2'.size; omega)) htl
    rw [← hW3]
    have HS3 : Hid (Wd W3 sp len (x : Int) ∧ Tab W3 ∧ Below xb w W3 ∧ Boxed W3 p 33 (.pointer (some ⟨xb, 0, none⟩)) ∧ Boxed W3 (p + 1) 51 (.slice sp len cap) ∧ Idx W3 xb i v0 v1 (.map (some mb)) v3 vs0 vs1 us m1 ∧ xb < p ∧ xb ≤ w.heap.size) := ⟨hwd3, htb3, hbel3, hbx3, hbs3, hI3, HF.out.1, HF.out.2.1⟩
    obtain ⟨a0, c0', hv0⟩ := row_form hI3.sets
    subst hv0
    have t0 := hI3.c0
    have t1 := hbx3.cell
    rename_i hHeld
    clear hHeld
    clear z0 z1 z2 hW3 hmap2 hk' hI3 hk3 hnp hnp1 hbx3 hbs3 hbel3 hwd3 htb3 hpt hes' hcv hcv2 hb2 hb2' HZ HI' HBX HBS HBEL HMAP HW HKy HPut HF c2 q33 q51
    refine NoPanic.normal ?_
    go_wp2_with fail
    obtain ⟨ib, hib⟩ : ∃ ib, ib = W3.heap.size := ⟨_, rfl⟩
    obtain ⟨W4, hW4⟩ : ∃ W4, W4 = W3.alloc (.cells #[.int .i64 (i : Nat)] 3) := ⟨_, rfl⟩
    have hb4 : Below W3.heap.size W3 W4 := by rw [hW4]; exact (Below.refl _ _).alloc (Nat.le_refl _) _
    have h4 : Fr w W4 xb p ib i sp len cap x ∧ Idx W4 xb i (.slice a0 i c0') v1 (.map (some mb)) v3 vs0 vs1 us m1 ∧ v1.ownBlock ≠ some ib := by
      obtain ⟨e1, e2, e3, e4, e5, e6, e7, e8⟩ := HS3.out
      refine ⟨⟨(hb4.block p e4.lt).trans e4, (hb4.block (p + 1) e5.lt).trans e5, by rw [hW4, hib]; exact Boxed.new W3 3 _, e1.later hb4, tab_below e2 hb4 (tab_lt e2), e3.trans (hb4.mono (by have := e6.lt; omega)), hsl, htl, e7, by rw [hib]; exact e5.lt, e8⟩, e6.later hb4, fun e => ?_⟩
      obtain ⟨cs, hc⟩ := own_ty e6.fewer e
      have := (Array.getElem?_eq_some_iff.1 hc).1
      omega
    rw [← hW4, ← hib]
    have H4 : Hid _ := h4
    clear h4 hb4 hW4 hib HS3 t0 t1
    have hmx : Ybaf.prog.follows .mixedOrders = true := by kernel_rfl
    obtain ⟨L, hLdef⟩ : ∃ L : Nat, L = pop 12 x := ⟨_, rfl⟩
    have hL12 : L ≤ 12 := by
      have : ∀ k y, pop k y ≤ k := by
        intro k
        induction k with
        | zero => intro y; simp [pop]
        | succ k ih => intro y; have := ih (y / 2); simp only [pop]; omega
      rw [hLdef]; exact this 12 x
    have HLen : Hid _ := fun (W : World) (h : Wd W sp len (x : Int)) => len_any sp len cap (x : Int) W h
    simp only [Int.toNat_natCast, ← hLdef] at HLen
    clear hLdef
    go_loopw [27] (fun _ wr => ∃ v1 vs1 m1, Fr w wr xb p ib i sp len cap x ∧ Idx wr xb i (.slice a0 i c0') v1 (.map (some mb)) v3 vs0 vs1 us m1 ∧ v1.ownBlock ≠ some ib) (fun _ wr => 14 - sl xb 1 wr)
    case atStart => exact ⟨v1, vs1, m1, H4.out⟩
    case round =>
      clear H4
      obtain ⟨v1, vs1, m1, hF, hI, hv1⟩ := hrel
      obtain ⟨a1, c1, rfl⟩ := row_form hI.fewer
      have q1 := hF.bx.cell
      have q2 := hF.bs.cell
      have q3 := hI.c1
      have hwd := hF.wd
      have HF : Hid (Fr w wr xb p ib i sp len cap x) := hF
      have HI : Hid (Idx wr xb i (.slice a0 i c0') (.slice a1 m1 c1) (.map (some mb)) v3 vs0 vs1 us m1) := hI
      have hsl1 : Hid (sl xb 1 wr = m1) := by show _ = _; simp [sl, q3]
      clear hF hI
      go_wp2_with fail
      go_region_held3 (fun wx => wx.cell? ⟨p, 0, none⟩ = some (.pointer (some ⟨xb, 0, none⟩)) ∧ wx.cell? ⟨xb, 1, none⟩ = some (.slice a1 m1 c1) ∧ wx.cell? ⟨p + 1, 0, none⟩ = some (.slice sp len cap) ∧ Wd wx sp len (x : Int))
        ((go_split_ands; refine ⟨?_, ?_, ?_, ?_⟩ <;> first | assumption | exact cell_later (by assumption) (by assumption) | exact Wd.later (by assumption) (by assumption) | go_keep))
        (first | (go_at_call 26; refine (HLen.out _ (by first | exact hwd | (go_split_ands; assumption))).mono ?_; rintro e w5 ⟨rfl, hb5, hd5⟩))
      have hb5' : Below wr.heap.size wr w5 := ⟨hb5.os, hb5.tape, hb5.output, hb5.size, hb5.block⟩
      have HF5 : Hid (Fr w w5 xb p ib i sp len cap x) := HF.out.later hb5'
      have HI5 : Hid (Idx w5 xb i (.slice a0 i c0') (.slice a1 m1 c1) (.map (some mb)) v3 vs0 vs1 us m1) := HI.out.later hb5'
      rename_i hHeld
      clear hHeld hb5 hb5' hd5 q1 q2 q3 hwd HF HI
      by_cases hle : m1 ≤ L
      · have hle' : ((m1 : Nat) : Int) ≤ (L : Nat) := by omega
        go_wp2_with fail
        have t1 := HF5.out.bx.cell
        have ti := HF5.out.bi.cell
        have t3 := HI5.out.c1
        have hxs : xb < w5.heap.size := HI5.out.lt
        obtain ⟨i3, hi3, hz0, hz1, hz2⟩ := info_parts info3
        refine wp_region_noPanic ?_
        refine wp_region_held_drew (S := fun wx => wx.cell? ⟨p, 0, none⟩ = some (.pointer (some ⟨xb, 0, none⟩)) ∧ wx.cell? ⟨ib, 0, none⟩ = some (.int .i64 (i : Nat))) hmx ⟨t1, ti⟩ (fun hS => ?_)
        refine take_at 0 35 (v := ?vv1) rfl rfl (by kernel_rfl) (by kernel_rfl) (by kernel_rfl) (fun _ _ _ _ h => h) (by rfl) ?hy1 hS ?rest1
        case hy1 => (intro wS hSw; (try dsimp only at hSw); go_split_ands; go_simp; try with_reducible rfl)
        simp only [List.setIfInBounds_toArray, List.set_cons_zero, List.set_cons_succ]
        refine take_at 1 36 (v := ?vv2) rfl rfl (by kernel_rfl) (by kernel_rfl) (by kernel_rfl) (fun _ _ _ _ h => h) (by rfl) ?hy2 hS ?rest2
        case hy2 => (intro wS hSw; (try dsimp only at hSw); go_split_ands; go_simp; try with_reducible rfl)
        simp only [List.setIfInBounds_toArray, List.set_cons_zero, List.set_cons_succ]
        refine take_at 2 37 (v := ?vv3) rfl rfl (by kernel_rfl) (by kernel_rfl) (by kernel_rfl) (fun _ _ _ _ h => h) (by rfl) ?hy3 hS ?rest3
        case hy3 => (intro wS hSw; (try dsimp only at hSw); go_split_ands; go_simp; try with_reducible rfl)
        simp only [List.setIfInBounds_toArray, List.set_cons_zero, List.set_cons_succ]
        refine take_at 3 38 (v := ?vv4) rfl rfl (by kernel_rfl) (by kernel_rfl) (by kernel_rfl) (fun _ _ _ _ h => h) (by rfl) ?hy4 hS ?rest4
        case hy4 => (intro wS hSw; (try dsimp only at hSw); go_split_ands; go_simp; try with_reducible rfl)
        simp only [List.setIfInBounds_toArray, List.set_cons_zero, List.set_cons_succ]
        refine take_at 5 40 (v := ?vv5) rfl rfl (by kernel_rfl) (by kernel_rfl) (by kernel_rfl) (fun _ _ _ _ h => h) (by rfl) ?hy5 hS ?rest5
        case hy5 => (intro wS hSw; (try dsimp only at hSw); go_split_ands; go_simp; try with_reducible rfl)
        simp only [List.setIfInBounds_toArray, List.set_cons_zero, List.set_cons_succ]
        refine wpAnyH_ready (rs := [4, 6]) (by kernel_rfl) (by simp) (AllReadyH.cons rfl (fun K hK => ?_) (AllReadyH.cons rfl (fun K hK => ?_) AllReadyH.nil))
        · go_simp
          refine hK.out _ _ hS (fun hS => ?_)
          refine wpAnyH_ready (rs := [6]) (by kernel_rfl) (by simp) (AllReadyH.cons rfl (fun K hK => ?_) AllReadyH.nil)
          go_simp
          refine hK.out _ _ ⟨by go_keep, by go_keep⟩ (fun hS => ?_)
          refine wpAnyH_ready (rs := [7]) (by kernel_rfl) (by simp) (AllReadyH.cons rfl (fun K hK => ?_) AllReadyH.nil)
          refine step_append_lies _ rfl _ _ 31 rfl xb 3 i3 (.int .i64 0) 1 8 Ybaf.underlying31 hi3 hz0 hz1 hz2 rfl (by decide) (.slice a1 m1 c1) m1 vs1 rfl (HI5.out.fewer.alloc _) ⟨w5.heap.size, 0, none⟩ 1 1 [.int .i64 (i : Nat)] rfl rfl (cell_one_new _ _ _) (by simp [Value.oneCell']) (by decide) (by unfold maxLen; omega) (by omega) (by simp; omega) _ rfl ?_
          intro g' cap' w6 hown hgrow hat hlt
          obtain ⟨⟨y1, y2, y3, y4⟩, yF, yI, yN⟩ := few_step HF5.out HI5.out hv1 (by omega) (tmp := .cells #[.int .i64 (i : Nat)] 3) ⟨hgrow.os, hgrow.tape, hgrow.output, hgrow.size, hgrow.block⟩ hown hat
          refine hK.out _ _ ⟨y1, y2⟩ (fun hS => ?_)
          change wpAnyH _ _ _ _ _ _ _ (Act.put _ (some 42) _) _
          simp only [Act.put, List.setIfInBounds_toArray, List.set_cons_zero, List.set_cons_succ]
          refine take_at 8 43 (v := ?vv6) rfl rfl (by kernel_rfl) (by kernel_rfl) (by kernel_rfl) (fun _ _ _ _ h => h) (by rfl) ?hy6 hS ?rest6
          case hy6 => (intro wS hSw; (try dsimp only at hSw); go_split_ands; go_simp; try with_reducible rfl)
          simp only [List.setIfInBounds_toArray, List.set_cons_zero, List.set_cons_succ]
          refine take_at 9 44 (v := ?vv7) rfl rfl (by kernel_rfl) (by kernel_rfl) (by kernel_rfl) (fun _ _ _ _ h => h) (by rfl) ?hy7 hS ?rest7
          case hy7 => (intro wS hSw; (try dsimp only at hSw); go_split_ands; go_simp; try with_reducible rfl)
          simp only [List.setIfInBounds_toArray, List.set_cons_zero, List.set_cons_succ]
          refine wpAnyH_ready (rs := [10]) (by kernel_rfl) (by simp) (AllReadyH.cons rfl (fun K hK => ?_) AllReadyH.nil)
          go_simp
          refine hK.out _ _ ⟨yF.bx.cell, yF.bi.cell⟩ (fun _ => ?_)
          refine wpAnyH_done (by kernel_rfl) ?_ _
          refine NoPanic.normal ?_
          go_wp2_with fail
          exact ⟨⟨_, _, _, yF, yI, yN⟩, by rw [hsl1.out]; simp [sl, yI.c1]; omega⟩
        · go_simp
          refine hK.out _ _ ⟨by go_keep, by go_keep⟩ (fun hS => ?_)
          refine wpAnyH_ready (rs := [4]) (by kernel_rfl) (by simp) (AllReadyH.cons rfl (fun K hK => ?_) AllReadyH.nil)
          go_simp
          refine hK.out _ _ hS (fun hS => ?_)
          refine wpAnyH_ready (rs := [7]) (by kernel_rfl) (by simp) (AllReadyH.cons rfl (fun K hK => ?_) AllReadyH.nil)
          refine step_append_lies _ rfl _ _ 31 rfl xb 3 i3 (.int .i64 0) 1 8 Ybaf.underlying31 hi3 hz0 hz1 hz2 rfl (by decide) (.slice a1 m1 c1) m1 vs1 rfl (HI5.out.fewer.alloc _) ⟨w5.heap.size, 0, none⟩ 1 1 [.int .i64 (i : Nat)] rfl rfl (cell_one_new _ _ _) (by simp [Value.oneCell']) (by decide) (by unfold maxLen; omega) (by omega) (by simp; omega) _ rfl ?_
          intro g' cap' w6 hown hgrow hat hlt
          obtain ⟨⟨y1, y2, y3, y4⟩, yF, yI, yN⟩ := few_step HF5.out HI5.out hv1 (by omega) (tmp := .cells #[.int .i64 (i : Nat)] 3) ⟨hgrow.os, hgrow.tape, hgrow.output, hgrow.size, hgrow.block⟩ hown hat
          refine hK.out _ _ ⟨y1, y2⟩ (fun hS => ?_)
          change wpAnyH _ _ _ _ _ _ _ (Act.put _ (some 42) _) _
          simp only [Act.put, List.setIfInBounds_toArray, List.set_cons_zero, List.set_cons_succ]
          refine take_at 8 43 (v := ?vv8) rfl rfl (by kernel_rfl) (by kernel_rfl) (by kernel_rfl) (fun _ _ _ _ h => h) (by rfl) ?hy8 hS ?rest8
          case hy8 => (intro wS hSw; (try dsimp only at hSw); go_split_ands; go_simp; try with_reducible rfl)
          simp only [List.setIfInBounds_toArray, List.set_cons_zero, List.set_cons_succ]
          refine take_at 9 44 (v := ?vv9) rfl rfl (by kernel_rfl) (by kernel_rfl) (by kernel_rfl) (fun _ _ _ _ h => h) (by rfl) ?hy9 hS ?rest9
          case hy9 => (intro wS hSw; (try dsimp only at hSw); go_split_ands; go_simp; try with_reducible rfl)
          simp only [List.setIfInBounds_toArray, List.set_cons_zero, List.set_cons_succ]
          refine wpAnyH_ready (rs := [10]) (by kernel_rfl) (by simp) (AllReadyH.cons rfl (fun K hK => ?_) AllReadyH.nil)
          go_simp
          refine hK.out _ _ ⟨yF.bx.cell, yF.bi.cell⟩ (fun _ => ?_)
          refine wpAnyH_done (by kernel_rfl) ?_ _
          refine NoPanic.normal ?_
          go_wp2_with fail
          exact ⟨⟨_, _, _, yF, yI, yN⟩, by rw [hsl1.out]; simp [sl, yI.c1]; omega⟩
      · have hle' : ¬ ((m1 : Nat) : Int) ≤ (L : Nat) := by omega
        have t2 := HF5.out.bs.cell
        go_wp2_with (go_at_call 27; refine (mem_any sp len cap _).mono ?_; rintro e w' ⟨rfl, rfl⟩)
        obtain ⟨W7, hW7⟩ : ∃ W7, W7 = w5.alloc (.cells #[.slice sp len cap] 51) := ⟨_, rfl⟩
        obtain ⟨Bs, hBs⟩ : ∃ Bs, Bs = w5.heap.size := ⟨_, rfl⟩
        have hb7 : Below w5.heap.size w5 W7 := by rw [hW7]; exact (Below.refl _ _).alloc (Nat.le_refl _) _
        have h0 : Ia w xb p ib Bs i sp len cap x mb (.slice a0 i c0') (.slice a1 m1 c1) vs0 vs1 m1 [] W7 := ⟨HF5.out.later hb7, by rw [hW7, hBs]; exact Boxed.new w5 51 _, v3, us, HI5.out.later hb7⟩
        have hB7 : W7.heap.size = Bs + 1 := by rw [hW7, hBs]; simp
        have hmbB : mb < Bs + 1 := by
          rcases HI5.out.keys with h1 | ⟨mb', es, clock, h1, h2, h3, h4⟩
          · cases h1
          · obtain rfl : mb = mb' := by simpa using h1
            have := (Array.getElem?_eq_some_iff.1 h3).1; omega
        have hxB : xb ≤ Bs + 1 := by have := HI5.out.lt; omega
        rw [← hW7, ← hBs]
        have HLO : Hid _ := HF5.out.lo
        have HIB : Hid (ib < Bs) := by have := HF5.out.bi.lt; show _ < _; omega
        clear hW7 hBs hb7 HF5 HI5 t2 hle hle' hsl1 HLen hv1
        refine (wpIn_wide (n := 5)).1 ?_
        refine range_own rfl (by decide) (gf := 38) (lb := #[.pointer (some ⟨Bs, 0, none⟩)]) rfl trivial (enters_of Ybaf.func38 (by kernel_rfl) rfl)
          (encs := fun q : Nat => #[.int .i64 (q : Nat)]) (fun _ => rfl) (S := fun xs => xs = memL 12 x) (Ia w xb p ib Bs i sp len cap x mb (.slice a0 i c0') (.slice a1 m1 c1) vs0 vs1 m1) (fun pre q _ => q < 12 ∧ pre.length < 12) (by rw [hB7]; exact Ia.own _ _ _ _ _ _ _ _ _ _ _ _ _ _ _ _ _ hxB hmbB) (fun _ _ _ _ _ h _ _ => h)
          (members_gives 4 Bs (by decide) sp len cap x _ (fun _ _ h => h.mcap)) h0 ?a1 ?assign ?body ?done
        case assign =>
          intro l q W K hK
          gi_wp2
          exact hK
        case body =>
          rintro l pre q W ⟨hF, hbB, v3', us', hI⟩ ⟨hq, hpl⟩
          have HR0 : Hid (Rd w W xb p ib Bs i sp len cap x mb (.slice a0 i c0') (.slice a1 m1 c1) v3' vs0 vs1 us' m1 W) := ⟨hF, hbB, hI, KeepsOthers.refl _⟩
          obtain ⟨i49, hi49, hy0, hy1, hy2⟩ := info_parts info49
          obtain ⟨i91, hi91, hx0, hx1, hx2⟩ := info_parts info91
          clear hF hbB hI h0
          gi_wp2
          gi_loopw [48] (fun _ wr => ∃ v3 us, Rd w W xb p ib Bs i sp len cap x mb (.slice a0 i c0') (.slice a1 m1 c1) v3 vs0 vs1 us m1 wr) (fun _ wr => 13 - sl xb 3 wr)
          case atStart => exact ⟨v3', us', HR0.out⟩
          case round =>
            clear HR0
            obtain ⟨v3, us, hR⟩ := hrel
            obtain ⟨a3, c3, rfl⟩ := row_form hR.idx.hold
            have t1 := hR.fr.bx.cell
            have t3 := hR.idx.c3
            have HR : Hid (Rd w W xb p ib Bs i sp len cap x mb (.slice a0 i c0') (.slice a1 m1 c1) (.slice a3 us.length c3) vs0 vs1 us m1 wr) := hR
            have hsl3 : Hid (sl xb 3 wr = us.length) := by show _ = _; simp [sl, t3]
            have hxs : xb < wr.heap.size := hR.idx.lt
            have hus12 := hR.idx.holdn
            clear hR
            by_cases hle : us.length ≤ q
            · have hle' : ((us.length : Nat) : Int) ≤ (q : Nat) := by omega
              gi_wp2
              refine region_round (S := fun wx => wx.cell? ⟨p, 0, none⟩ = some (.pointer (some ⟨xb, 0, none⟩))) hmx (by kernel_rfl) t1 (fun hS => ?_)
              refine take_at 0 55 (v := ?vv101) rfl rfl (by kernel_rfl) (by kernel_rfl) (by kernel_rfl) (fun _ _ _ _ h => h) (by rfl) ?hy101 hS ?rest101
              case hy101 => (intro wS hSw; (try dsimp only at hSw); go_split_ands; go_simp; try with_reducible rfl)
              simp only [List.setIfInBounds_toArray, List.set_cons_zero, List.set_cons_succ]
              refine take_at 1 56 (v := ?vv102) rfl rfl (by kernel_rfl) (by kernel_rfl) (by kernel_rfl) (fun _ _ _ _ h => h) (by rfl) ?hy102 hS ?rest102
              case hy102 => (intro wS hSw; (try dsimp only at hSw); go_split_ands; go_simp; try with_reducible rfl)
              simp only [List.setIfInBounds_toArray, List.set_cons_zero, List.set_cons_succ]
              refine take_at 2 57 (v := ?vv103) rfl rfl (by kernel_rfl) (by kernel_rfl) (by kernel_rfl) (fun _ _ _ _ h => h) (by rfl) ?hy103 hS ?rest103
              case hy103 => (intro wS hSw; (try dsimp only at hSw); go_split_ands; go_simp; try with_reducible rfl)
              simp only [List.setIfInBounds_toArray, List.set_cons_zero, List.set_cons_succ]
              refine take_at 3 58 (v := ?vv104) rfl rfl (by kernel_rfl) (by kernel_rfl) (by kernel_rfl) (fun _ _ _ _ h => h) (by rfl) ?hy104 hS ?rest104
              case hy104 => (intro wS hSw; (try dsimp only at hSw); go_split_ands; go_simp; try with_reducible rfl)
              simp only [List.setIfInBounds_toArray, List.set_cons_zero, List.set_cons_succ]
              refine wpAnyH_ready (rs := [4, 5]) (by kernel_rfl) (by simp) (AllReadyH.cons rfl (fun K hK => ?_) (AllReadyH.cons rfl (fun K hK => ?_) AllReadyH.nil))
              · go_simp
                refine hK.out _ _ hS (fun hS => ?_)
                refine wpAnyH_ready (rs := [5]) (by kernel_rfl) (by simp) (AllReadyH.cons rfl (fun K hK => ?_) AllReadyH.nil)
                go_simp
                refine hK.out _ _ (by go_keep) (fun hS => ?_)
                refine wpAnyH_ready (rs := [6]) (by kernel_rfl) (by simp) (AllReadyH.cons rfl (fun K hK => ?_) AllReadyH.nil)
                refine step_append_lies _ rfl _ _ 77 rfl xb 49 i49 (.slice none 0 0) 1 24 Ybaf.underlying77 hi49 hy0 hy1 hy2 rfl (by decide) (.slice a3 us.length c3) us.length us rfl (HR.out.idx.hold.alloc _) ⟨wr.heap.size, 0, none⟩ 1 1 [.slice none 0 0] rfl rfl (cell_one_new _ _ _) (by simp [Value.oneCell']) (by decide) (by unfold maxLen; omega) (by omega) (by simp; omega) _ rfl ?_
                intro g' cap' w6 hown hgrow hat hlt
                obtain ⟨⟨y1, y2, y3⟩, yR⟩ := hold_step HR.out (by omega) (tmp := .cells #[.slice none 0 0] 49) ⟨hgrow.os, hgrow.tape, hgrow.output, hgrow.size, hgrow.block⟩ hown
                refine hK.out _ _ y1 (fun hS => ?_)
                change wpAnyH _ _ _ _ _ _ _ (Act.put _ (some 61) _) _
                simp only [Act.put, List.setIfInBounds_toArray, List.set_cons_zero, List.set_cons_succ]
                refine take_at 7 62 (v := ?vv105) rfl rfl (by kernel_rfl) (by kernel_rfl) (by kernel_rfl) (fun _ _ _ _ h => h) (by rfl) ?hy105 hS ?rest105
                case hy105 => (intro wS hSw; (try dsimp only at hSw); go_split_ands; go_simp; try with_reducible rfl)
                simp only [List.setIfInBounds_toArray, List.set_cons_zero, List.set_cons_succ]
                refine take_at 8 63 (v := ?vv106) rfl rfl (by kernel_rfl) (by kernel_rfl) (by kernel_rfl) (fun _ _ _ _ h => h) (by rfl) ?hy106 hS ?rest106
                case hy106 => (intro wS hSw; (try dsimp only at hSw); go_split_ands; go_simp; try with_reducible rfl)
                simp only [List.setIfInBounds_toArray, List.set_cons_zero, List.set_cons_succ]
                refine wpAnyH_ready (rs := [9]) (by kernel_rfl) (by simp) (AllReadyH.cons rfl (fun K hK => ?_) AllReadyH.nil)
                go_simp
                refine hK.out _ _ yR.fr.bx.cell (fun _ => ?_)
                refine wpAnyH_done (by kernel_rfl) ?_ _
                refine Nrm.intro ?_
                gi_wp2
                exact ⟨⟨_, _, yR⟩, by rw [hsl3.out]; simp [sl, yR.idx.c3]; omega⟩
              · go_simp
                refine hK.out _ _ (by go_keep) (fun hS => ?_)
                refine wpAnyH_ready (rs := [4]) (by kernel_rfl) (by simp) (AllReadyH.cons rfl (fun K hK => ?_) AllReadyH.nil)
                go_simp
                refine hK.out _ _ hS (fun hS => ?_)
                refine wpAnyH_ready (rs := [6]) (by kernel_rfl) (by simp) (AllReadyH.cons rfl (fun K hK => ?_) AllReadyH.nil)
                refine step_append_lies _ rfl _ _ 77 rfl xb 49 i49 (.slice none 0 0) 1 24 Ybaf.underlying77 hi49 hy0 hy1 hy2 rfl (by decide) (.slice a3 us.length c3) us.length us rfl (HR.out.idx.hold.alloc _) ⟨wr.heap.size, 0, none⟩ 1 1 [.slice none 0 0] rfl rfl (cell_one_new _ _ _) (by simp [Value.oneCell']) (by decide) (by unfold maxLen; omega) (by omega) (by simp; omega) _ rfl ?_
                intro g' cap' w6 hown hgrow hat hlt
                obtain ⟨⟨y1, y2, y3⟩, yR⟩ := hold_step HR.out (by omega) (tmp := .cells #[.slice none 0 0] 49) ⟨hgrow.os, hgrow.tape, hgrow.output, hgrow.size, hgrow.block⟩ hown
                refine hK.out _ _ y1 (fun hS => ?_)
                change wpAnyH _ _ _ _ _ _ _ (Act.put _ (some 61) _) _
                simp only [Act.put, List.setIfInBounds_toArray, List.set_cons_zero, List.set_cons_succ]
                refine take_at 7 62 (v := ?vv107) rfl rfl (by kernel_rfl) (by kernel_rfl) (by kernel_rfl) (fun _ _ _ _ h => h) (by rfl) ?hy107 hS ?rest107
                case hy107 => (intro wS hSw; (try dsimp only at hSw); go_split_ands; go_simp; try with_reducible rfl)
                simp only [List.setIfInBounds_toArray, List.set_cons_zero, List.set_cons_succ]
                refine take_at 8 63 (v := ?vv108) rfl rfl (by kernel_rfl) (by kernel_rfl) (by kernel_rfl) (fun _ _ _ _ h => h) (by rfl) ?hy108 hS ?rest108
                case hy108 => (intro wS hSw; (try dsimp only at hSw); go_split_ands; go_simp; try with_reducible rfl)
                simp only [List.setIfInBounds_toArray, List.set_cons_zero, List.set_cons_succ]
                refine wpAnyH_ready (rs := [9]) (by kernel_rfl) (by simp) (AllReadyH.cons rfl (fun K hK => ?_) AllReadyH.nil)
                go_simp
                refine hK.out _ _ yR.fr.bx.cell (fun _ => ?_)
                refine wpAnyH_done (by kernel_rfl) ?_ _
                refine Nrm.intro ?_
                gi_wp2
                exact ⟨⟨_, _, yR⟩, by rw [hsl3.out]; simp [sl, yR.idx.c3]; omega⟩
            · have hle' : ¬ ((us.length : Nat) : Int) ≤ (q : Nat) := by omega
              gi_wp2
              obtain ⟨jj, hjj⟩ : ∃ jj : Nat, jj = i / 64 := ⟨_, rfl⟩
              have hij : ((i : Nat) : Int) / 64 = (jj : Nat) := by omega
              have him : ((i : Nat) : Int) % 64 = ((i % 64 : Nat) : Int) := by omega
              have him64 : i % 64 < 64 := by omega
              have hjj64 : jj < 64 := by omega
              have hwj : IntKind.i64.wrap ((jj : Nat) : Int) = (jj : Nat) := by simp [IntKind.wrap, IntKind.bits, IntKind.signed]; omega
              obtain ⟨ysh, hsh⟩ : ∃ y : Int, ∀ W, (Op.shift BinOp.shl IntKind.u64 1 IntKind.i64 ((i : Int).tmod 64)).run Ybaf.prog W = .ok (.int .u64 y) W := ⟨_, shl_any i⟩
              have hwm : IntKind.i64.wrap ((i % 64 : Nat) : Int) = ((i % 64 : Nat) : Int) := by simp [IntKind.wrap, IntKind.bits, IntKind.signed]; omega
              have HU : Hid (q < us.length) := by show _ < _; omega
              clear hjj hle hle' t1 t3 hsl3 hxs hus12
              gi_loopw [64] (fun _ wr => ∃ v3 us, q < us.length ∧ Rd w W xb p ib Bs i sp len cap x mb (.slice a0 i c0') (.slice a1 m1 c1) v3 vs0 vs1 us m1 wr) (fun _ wr => 65 - sl2 xb q wr)
              case atStart => exact ⟨_, us, HU.out, HR.out⟩
              case round =>
                clear HR HU
                obtain ⟨v3, us, hqu, hR⟩ := hrel
                obtain ⟨u, hu⟩ : ∃ u, us[q]? = some u := ⟨_, List.getElem?_eq_getElem hqu⟩
                obtain ⟨g3, c3, cur, rfl, hgb, hcu, _, hg3, hcc⟩ := hR.idx.hold_at hu
                obtain ⟨k, zs, hk64, hrow⟩ := hR.idx.inner.1 q u hu
                obtain ⟨au, cu, rfl⟩ := row_form hrow
                have t1 := hR.fr.bx.cell
                have t3 := hR.idx.c3
                have ti := hR.fr.bi.cell
                have tq : wr.cell? ⟨g3, q, none⟩ = some (.slice au k cu) := (cell_of_row wr g3 q cur 49 _ hgb).trans hcu
                have hsl2 : Hid (sl2 xb q wr = k) := by show _ = _; simp [sl2, sl, t3, tq]
                have hqi : ((q : Nat) : Int) < (us.length : Nat) := by omega
                have HR : Hid (Rd w W xb p ib Bs i sp len cap x mb (.slice a0 i c0') (.slice a1 m1 c1) (.slice (some ⟨g3, 0, none⟩) us.length c3) vs0 vs1 us m1 wr) := hR
                have HROW : Hid (wr.ownsRow xb 91 1 (.slice au k cu) k (zs.map (Value.int .u64))) := hrow
                have HGB : Hid (wr.heap[g3]? = some (.cells cur 49 (0, 0)) ∧ xb ≤ g3 ∧ us[q]? = some (.slice au k cu)) := ⟨hgb, hg3, hu⟩
                clear hR hrow hgb hcu hu
                gi_wp2
                by_cases hle : k ≤ jj
                · have hle' : ((k : Nat) : Int) ≤ (jj : Nat) := by omega
                  refine region_round (S := fun wx => wx.cell? ⟨p, 0, none⟩ = some (.pointer (some ⟨xb, 0, none⟩)) ∧ wx.cell? ⟨xb, 3, none⟩ = some (.slice (some ⟨g3, 0, none⟩) us.length c3) ∧ wx.cell? ⟨g3, q, none⟩ = some (.slice au k cu) ∧ wx.cell? ⟨ib, 0, none⟩ = some (.int .i64 (i : Nat))) hmx (by kernel_rfl) ⟨t1, t3, tq, ti⟩ (fun hS => ?_)
                  refine take_at 0 64 (v := ?vv109) rfl rfl (by kernel_rfl) (by kernel_rfl) (by kernel_rfl) (fun _ _ _ _ h => h) (by rfl) ?hy109 hS ?rest109
                  case hy109 => (intro wS hSw; (try dsimp only at hSw); go_split_ands; go_simp; try with_reducible rfl)
                  simp only [List.setIfInBounds_toArray, List.set_cons_zero, List.set_cons_succ]
                  refine take_at 1 65 (v := ?vv110) rfl rfl (by kernel_rfl) (by kernel_rfl) (by kernel_rfl) (fun _ _ _ _ h => h) (by rfl) ?hy110 hS ?rest110
                  case hy110 => (intro wS hSw; (try dsimp only at hSw); go_split_ands; go_simp; try with_reducible rfl)
                  simp only [List.setIfInBounds_toArray, List.set_cons_zero, List.set_cons_succ]
                  refine take_at 2 66 (v := ?vv111) rfl rfl (by kernel_rfl) (by kernel_rfl) (by kernel_rfl) (fun _ _ _ _ h => h) (by rfl) ?hy111 hS ?rest111
                  case hy111 => (intro wS hSw; (try dsimp only at hSw); go_split_ands; go_simp; try with_reducible rfl)
                  simp only [List.setIfInBounds_toArray, List.set_cons_zero, List.set_cons_succ]
                  refine take_at 3 67 (v := ?vv112) rfl rfl (by kernel_rfl) (by kernel_rfl) (by kernel_rfl) (fun _ _ _ _ h => h) (by rfl) ?hy112 hS ?rest112
                  case hy112 => (intro wS hSw; (try dsimp only at hSw); go_split_ands; go_simp; try with_reducible rfl)
                  simp only [List.setIfInBounds_toArray, List.set_cons_zero, List.set_cons_succ]
                  refine take_at 4 68 (v := ?vv113) rfl rfl (by kernel_rfl) (by kernel_rfl) (by kernel_rfl) (fun _ _ _ _ h => h) (by rfl) ?hy113 hS ?rest113
                  case hy113 => (intro wS hSw; (try dsimp only at hSw); go_split_ands; go_simp; try with_reducible rfl)
                  simp only [List.setIfInBounds_toArray, List.set_cons_zero, List.set_cons_succ]
                  refine take_at 5 69 (v := ?vv114) rfl rfl (by kernel_rfl) (by kernel_rfl) (by kernel_rfl) (fun _ _ _ _ h => h) (by rfl) ?hy114 hS ?rest114
                  case hy114 => (intro wS hSw; (try dsimp only at hSw); go_split_ands; go_simp; try with_reducible rfl)
                  simp only [List.setIfInBounds_toArray, List.set_cons_zero, List.set_cons_succ]
                  refine take_at 6 70 (v := ?vv115) rfl rfl (by kernel_rfl) (by kernel_rfl) (by kernel_rfl) (fun _ _ _ _ h => h) (by rfl) ?hy115 hS ?rest115
                  case hy115 => (intro wS hSw; (try dsimp only at hSw); go_split_ands; go_simp; try with_reducible rfl)
                  simp only [List.setIfInBounds_toArray, List.set_cons_zero, List.set_cons_succ]
                  refine take_at 7 71 (v := ?vv116) rfl rfl (by kernel_rfl) (by kernel_rfl) (by kernel_rfl) (fun _ _ _ _ h => h) (by rfl) ?hy116 hS ?rest116
                  case hy116 => (intro wS hSw; (try dsimp only at hSw); go_split_ands; go_simp; try with_reducible rfl)
                  simp only [List.setIfInBounds_toArray, List.set_cons_zero, List.set_cons_succ]
                  refine take_at 8 72 (v := ?vv117) rfl rfl (by kernel_rfl) (by kernel_rfl) (by kernel_rfl) (fun _ _ _ _ h => h) (by rfl) ?hy117 hS ?rest117
                  case hy117 => (intro wS hSw; (try dsimp only at hSw); go_split_ands; go_simp; try with_reducible rfl)
                  simp only [List.setIfInBounds_toArray, List.set_cons_zero, List.set_cons_succ]
                  refine take_at 9 73 (v := ?vv118) rfl rfl (by kernel_rfl) (by kernel_rfl) (by kernel_rfl) (fun _ _ _ _ h => h) (by rfl) ?hy118 hS ?rest118
                  case hy118 => (intro wS hSw; (try dsimp only at hSw); go_split_ands; go_simp; try with_reducible rfl)
                  simp only [List.setIfInBounds_toArray, List.set_cons_zero, List.set_cons_succ]
                  refine take_at 10 74 (v := ?vv119) rfl rfl (by kernel_rfl) (by kernel_rfl) (by kernel_rfl) (fun _ _ _ _ h => h) (by rfl) ?hy119 hS ?rest119
                  case hy119 => (intro wS hSw; (try dsimp only at hSw); go_split_ands; go_simp; try with_reducible rfl)
                  simp only [List.setIfInBounds_toArray, List.set_cons_zero, List.set_cons_succ]
                  refine wpAnyH_done (by kernel_rfl) ?_ _
                  refine Nrm.intro ?_
                  gi_wp2
                  obtain ⟨W9, hW9⟩ : ∃ W9, W9 = wr.drew := ⟨_, rfl⟩
                  have HR9 : Hid (Rd w W xb p ib Bs i sp len cap x mb (.slice a0 i c0') (.slice a1 m1 c1) (.slice (some ⟨g3, 0, none⟩) us.length c3) vs0 vs1 us m1 W9) := by rw [hW9]; exact HR.out.drew
                  have HROW9 : Hid (W9.ownsRow xb 91 1 (.slice au k cu) k (zs.map (Value.int .u64))) := by rw [hW9]; exact HROW.out
                  have HGB9 : Hid (W9.heap[g3]? = some (.cells cur 49 (0, 0)) ∧ xb ≤ g3 ∧ us[q]? = some (.slice au k cu)) := by rw [hW9]; exact HGB.out
                  rw [← hW9]
                  clear hS hW9 HR HROW HGB t1 t3 ti tq
                  have t1 := HR9.out.fr.bx.cell
                  have t3 := HR9.out.idx.c3
                  have ti := HR9.out.fr.bi.cell
                  have tq : W9.cell? ⟨g3, q, none⟩ = some (.slice au k cu) := by
                    obtain ⟨g3', c3', cur', hv', hgb', hcu', _⟩ := HR9.out.idx.hold_at HGB9.out.2.2
                    have : g3 = g3' := by simpa [Value.ownBlock] using congrArg Value.ownBlock hv'
                    subst this
                    exact (cell_of_row W9 g3 q cur' 49 _ hgb').trans hcu'
                  have hx9 : xb < W9.heap.size := HR9.out.idx.lt
                  have hg9 : g3 < W9.heap.size := (Array.getElem?_eq_some_iff.1 HGB9.out.1).1
                  refine region_round (S := fun wx => wx.cell? ⟨p, 0, none⟩ = some (.pointer (some ⟨xb, 0, none⟩)) ∧ wx.cell? ⟨xb, 3, none⟩ = some (.slice (some ⟨g3, 0, none⟩) us.length c3)) hmx (by kernel_rfl) ⟨t1, t3⟩ (fun hS => ?_)
                  refine take_at 0 75 (v := ?vv120) rfl rfl (by kernel_rfl) (by kernel_rfl) (by kernel_rfl) (fun _ _ _ _ h => h) (by rfl) ?hy120 hS ?rest120
                  case hy120 => (intro wS hSw; (try dsimp only at hSw); go_split_ands; go_simp; try with_reducible rfl)
                  simp only [List.setIfInBounds_toArray, List.set_cons_zero, List.set_cons_succ]
                  refine take_at 1 76 (v := ?vv121) rfl rfl (by kernel_rfl) (by kernel_rfl) (by kernel_rfl) (fun _ _ _ _ h => h) (by rfl) ?hy121 hS ?rest121
                  case hy121 => (intro wS hSw; (try dsimp only at hSw); go_split_ands; go_simp; try with_reducible rfl)
                  simp only [List.setIfInBounds_toArray, List.set_cons_zero, List.set_cons_succ]
                  refine take_at 2 77 (v := ?vv122) rfl rfl (by kernel_rfl) (by kernel_rfl) (by kernel_rfl) (fun _ _ _ _ h => h) (by rfl) ?hy122 hS ?rest122
                  case hy122 => (intro wS hSw; (try dsimp only at hSw); go_split_ands; go_simp; try with_reducible rfl)
                  simp only [List.setIfInBounds_toArray, List.set_cons_zero, List.set_cons_succ]
                  refine take_at 3 78 (v := ?vv123) rfl rfl (by kernel_rfl) (by kernel_rfl) (by kernel_rfl) (fun _ _ _ _ h => h) (by rfl) ?hy123 hS ?rest123
                  case hy123 => (intro wS hSw; (try dsimp only at hSw); go_split_ands; go_simp; try with_reducible rfl)
                  simp only [List.setIfInBounds_toArray, List.set_cons_zero, List.set_cons_succ]
                  refine take_at 4 79 (v := ?vv124) rfl rfl (by kernel_rfl) (by kernel_rfl) (by kernel_rfl) (fun _ _ _ _ h => h) (by rfl) ?hy124 hS ?rest124
                  case hy124 => (intro wS hSw; (try dsimp only at hSw); go_split_ands; go_simp; try with_reducible rfl)
                  simp only [List.setIfInBounds_toArray, List.set_cons_zero, List.set_cons_succ]
                  refine take_at 5 80 (v := ?vv125) rfl rfl (by kernel_rfl) (by kernel_rfl) (by kernel_rfl) (fun _ _ _ _ h => h) (by rfl) ?hy125 hS ?rest125
                  case hy125 => (intro wS hSw; (try dsimp only at hSw); go_split_ands; go_simp; try with_reducible rfl)
                  simp only [List.setIfInBounds_toArray, List.set_cons_zero, List.set_cons_succ]
                  refine take_at 6 81 (v := ?vv126) rfl rfl (by kernel_rfl) (by kernel_rfl) (by kernel_rfl) (fun _ _ _ _ h => h) (by rfl) ?hy126 hS ?rest126
                  case hy126 => (intro wS hSw; (try dsimp only at hSw); go_split_ands; go_simp; try with_reducible rfl)
                  simp only [List.setIfInBounds_toArray, List.set_cons_zero, List.set_cons_succ]
                  refine take_at 7 82 (v := ?vv127) rfl rfl (by kernel_rfl) (by kernel_rfl) (by kernel_rfl) (fun _ _ _ _ h => h) (by rfl) ?hy127 hS ?rest127
                  case hy127 => (intro wS hSw; (try dsimp only at hSw); go_split_ands; go_simp; try with_reducible rfl)
                  simp only [List.setIfInBounds_toArray, List.set_cons_zero, List.set_cons_succ]
                  refine take_at 8 83 (v := ?vv128) rfl rfl (by kernel_rfl) (by kernel_rfl) (by kernel_rfl) (fun _ _ _ _ h => h) (by rfl) ?hy128 hS ?rest128
                  case hy128 => (intro wS hSw; (try dsimp only at hSw); go_split_ands; go_simp; try with_reducible rfl)
                  simp only [List.setIfInBounds_toArray, List.set_cons_zero, List.set_cons_succ]
                  refine take_at 9 84 (v := ?vv129) rfl rfl (by kernel_rfl) (by kernel_rfl) (by kernel_rfl) (fun _ _ _ _ h => h) (by rfl) ?hy129 hS ?rest129
                  case hy129 => (intro wS hSw; (try dsimp only at hSw); go_split_ands; go_simp; try with_reducible rfl)
                  simp only [List.setIfInBounds_toArray, List.set_cons_zero, List.set_cons_succ]
                  refine take_at 10 85 (v := ?vv130) rfl rfl (by kernel_rfl) (by kernel_rfl) (by kernel_rfl) (fun _ _ _ _ h => h) (by rfl) ?hy130 hS ?rest130
                  case hy130 => (intro wS hSw; (try dsimp only at hSw); go_split_ands; go_simp; try with_reducible rfl)
                  simp only [List.setIfInBounds_toArray, List.set_cons_zero, List.set_cons_succ]
                  refine wpAnyH_ready (rs := [11, 12]) (by kernel_rfl) (by simp) (AllReadyH.cons rfl (fun K hK => ?_) (AllReadyH.cons rfl (fun K hK => ?_) AllReadyH.nil))
                  · go_simp
                    refine hK.out _ _ hS (fun hS => ?_)
                    refine wpAnyH_ready (rs := [12]) (by kernel_rfl) (by simp) (AllReadyH.cons rfl (fun K hK => ?_) AllReadyH.nil)
                    go_simp
                    refine hK.out _ _ ⟨by go_keep, by go_keep⟩ (fun hS => ?_)
                    refine wpAnyH_ready (rs := [13]) (by kernel_rfl) (by simp) (AllReadyH.cons rfl (fun K hK => ?_) AllReadyH.nil)
                    refine step_append_lies _ rfl _ _ 49 rfl xb 91 i91 (.int .u64 0) 1 8 Ybaf.underlying49 hi91 hx0 hx1 hx2 rfl (by decide) (.slice au k cu) k (zs.map (Value.int .u64)) rfl (HROW9.out.alloc _) ⟨W9.heap.size, 0, none⟩ 1 1 [.int .u64 0] rfl rfl (cell_one_new _ _ _) (by simp [Value.oneCell']) (by decide) (by unfold maxLen; omega) (by omega) (by simp; omega) _ rfl ?_
                    intro g' cap' w6 hown hgrow hat hlt
                    obtain ⟨⟨y1, y2, y3, y4⟩, yR⟩ := inner_step HR9.out HGB9.out.2.2 rfl HGB9.out.1 HGB9.out.2.1 (by omega) HROW9.out (tmp := .cells #[.int .u64 0] 91) ⟨hgrow.os, hgrow.tape, hgrow.output, hgrow.size, hgrow.block⟩ hown hat
                    refine hK.out _ _ ⟨y1, y2⟩ (fun hS => ?_)
                    change wpAnyH _ _ _ _ _ _ _ (Act.put _ (some 88) _) _
                    simp only [Act.put, List.setIfInBounds_toArray, List.set_cons_zero, List.set_cons_succ]
                    refine take_at 14 89 (v := ?vv131) rfl rfl (by kernel_rfl) (by kernel_rfl) (by kernel_rfl) (fun _ _ _ _ h => h) (by rfl) ?hy131 hS ?rest131
                    case hy131 => (intro wS hSw; (try dsimp only at hSw); go_split_ands; go_simp; try with_reducible rfl)
                    simp only [List.setIfInBounds_toArray, List.set_cons_zero, List.set_cons_succ]
                    refine wpAnyH_ready (rs := [15]) (by kernel_rfl) (by simp) (AllReadyH.cons rfl (fun K hK => ?_) AllReadyH.nil)
                    go_simp
                    have yc3 := yR.idx.c3
                    refine hK.out _ _ ⟨yR.fr.bx.cell, yc3⟩ (fun _ => ?_)
                    refine wpAnyH_done (by kernel_rfl) ?_ _
                    refine Nrm.intro ?_
                    have ysl : sl2 xb q (w6.setCell ⟨g3, q, none⟩ (.slice (some ⟨g', 0, none⟩) (k + 1) cap')) = k + 1 := by
                      have hc := World.cell?_setCell_same' w6 ⟨g3, q, none⟩ (.slice (some ⟨g', 0, none⟩) (k + 1) cap') (by rw [y3]; rfl)
                      simp [sl2, sl, yc3, hc]
                    gi_wp2
                    refine ⟨⟨_, _, by rw [List.length_set]; exact hqu, yR⟩, ?_⟩
                    rw [hsl2.out, ysl]; omega
                  · go_simp
                    refine hK.out _ _ ⟨by go_keep, by go_keep⟩ (fun hS => ?_)
                    refine wpAnyH_ready (rs := [11]) (by kernel_rfl) (by simp) (AllReadyH.cons rfl (fun K hK => ?_) AllReadyH.nil)
                    go_simp
                    refine hK.out _ _ hS (fun hS => ?_)
                    refine wpAnyH_ready (rs := [13]) (by kernel_rfl) (by simp) (AllReadyH.cons rfl (fun K hK => ?_) AllReadyH.nil)
                    refine step_append_lies _ rfl _ _ 49 rfl xb 91 i91 (.int .u64 0) 1 8 Ybaf.underlying49 hi91 hx0 hx1 hx2 rfl (by decide) (.slice au k cu) k (zs.map (Value.int .u64)) rfl (HROW9.out.alloc _) ⟨W9.heap.size, 0, none⟩ 1 1 [.int .u64 0] rfl rfl (cell_one_new _ _ _) (by simp [Value.oneCell']) (by decide) (by unfold maxLen; omega) (by omega) (by simp; omega) _ rfl ?_
                    intro g' cap' w6 hown hgrow hat hlt
                    obtain ⟨⟨y1, y2, y3, y4⟩, yR⟩ := inner_step HR9.out HGB9.out.2.2 rfl HGB9.out.1 HGB9.out.2.1 (by omega) HROW9.out (tmp := .cells #[.int .u64 0] 91) ⟨hgrow.os, hgrow.tape, hgrow.output, hgrow.size, hgrow.block⟩ hown hat
                    refine hK.out _ _ ⟨y1, y2⟩ (fun hS => ?_)
                    change wpAnyH _ _ _ _ _ _ _ (Act.put _ (some 88) _) _
                    simp only [Act.put, List.setIfInBounds_toArray, List.set_cons_zero, List.set_cons_succ]
                    refine take_at 14 89 (v := ?vv132) rfl rfl (by kernel_rfl) (by kernel_rfl) (by kernel_rfl) (fun _ _ _ _ h => h) (by rfl) ?hy132 hS ?rest132
                    case hy132 => (intro wS hSw; (try dsimp only at hSw); go_split_ands; go_simp; try with_reducible rfl)
                    simp only [List.setIfInBounds_toArray, List.set_cons_zero, List.set_cons_succ]
                    refine wpAnyH_ready (rs := [15]) (by kernel_rfl) (by simp) (AllReadyH.cons rfl (fun K hK => ?_) AllReadyH.nil)
                    go_simp
                    have yc3 := yR.idx.c3
                    refine hK.out _ _ ⟨yR.fr.bx.cell, yc3⟩ (fun _ => ?_)
                    refine wpAnyH_done (by kernel_rfl) ?_ _
                    refine Nrm.intro ?_
                    have ysl : sl2 xb q (w6.setCell ⟨g3, q, none⟩ (.slice (some ⟨g', 0, none⟩) (k + 1) cap')) = k + 1 := by
                      have hc := World.cell?_setCell_same' w6 ⟨g3, q, none⟩ (.slice (some ⟨g', 0, none⟩) (k + 1) cap') (by rw [y3]; rfl)
                      simp [sl2, sl, yc3, hc]
                    gi_wp2
                    refine ⟨⟨_, _, by rw [List.length_set]; exact hqu, yR⟩, ?_⟩
                    rw [hsl2.out, ysl]; omega
                · have hle' : ¬ ((k : Nat) : Int) ≤ (jj : Nat) := by omega
                  refine region_round (S := fun wx => wx.cell? ⟨p, 0, none⟩ = some (.pointer (some ⟨xb, 0, none⟩)) ∧ wx.cell? ⟨xb, 3, none⟩ = some (.slice (some ⟨g3, 0, none⟩) us.length c3) ∧ wx.cell? ⟨g3, q, none⟩ = some (.slice au k cu) ∧ wx.cell? ⟨ib, 0, none⟩ = some (.int .i64 (i : Nat))) hmx (by kernel_rfl) ⟨t1, t3, tq, ti⟩ (fun hS => ?_)
                  refine take_at 0 64 (v := ?vv609) rfl rfl (by kernel_rfl) (by kernel_rfl) (by kernel_rfl) (fun _ _ _ _ h => h) (by rfl) ?hy609 hS ?rest609
                  case hy609 => (intro wS hSw; (try dsimp only at hSw); go_split_ands; go_simp; try with_reducible rfl)
                  simp only [List.setIfInBounds_toArray, List.set_cons_zero, List.set_cons_succ]
                  refine take_at 1 65 (v := ?vv610) rfl rfl (by kernel_rfl) (by kernel_rfl) (by kernel_rfl) (fun _ _ _ _ h => h) (by rfl) ?hy610 hS ?rest610
                  case hy610 => (intro wS hSw; (try dsimp only at hSw); go_split_ands; go_simp; try with_reducible rfl)
                  simp only [List.setIfInBounds_toArray, List.set_cons_zero, List.set_cons_succ]
                  refine take_at 2 66 (v := ?vv611) rfl rfl (by kernel_rfl) (by kernel_rfl) (by kernel_rfl) (fun _ _ _ _ h => h) (by rfl) ?hy611 hS ?rest611
                  case hy611 => (intro wS hSw; (try dsimp only at hSw); go_split_ands; go_simp; try with_reducible rfl)
                  simp only [List.setIfInBounds_toArray, List.set_cons_zero, List.set_cons_succ]
                  refine take_at 3 67 (v := ?vv612) rfl rfl (by kernel_rfl) (by kernel_rfl) (by kernel_rfl) (fun _ _ _ _ h => h) (by rfl) ?hy612 hS ?rest612
                  case hy612 => (intro wS hSw; (try dsimp only at hSw); go_split_ands; go_simp; try with_reducible rfl)
                  simp only [List.setIfInBounds_toArray, List.set_cons_zero, List.set_cons_succ]
                  refine take_at 4 68 (v := ?vv613) rfl rfl (by kernel_rfl) (by kernel_rfl) (by kernel_rfl) (fun _ _ _ _ h => h) (by rfl) ?hy613 hS ?rest613
                  case hy613 => (intro wS hSw; (try dsimp only at hSw); go_split_ands; go_simp; try with_reducible rfl)
                  simp only [List.setIfInBounds_toArray, List.set_cons_zero, List.set_cons_succ]
                  refine take_at 5 69 (v := ?vv614) rfl rfl (by kernel_rfl) (by kernel_rfl) (by kernel_rfl) (fun _ _ _ _ h => h) (by rfl) ?hy614 hS ?rest614
                  case hy614 => (intro wS hSw; (try dsimp only at hSw); go_split_ands; go_simp; try with_reducible rfl)
                  simp only [List.setIfInBounds_toArray, List.set_cons_zero, List.set_cons_succ]
                  refine take_at 6 70 (v := ?vv615) rfl rfl (by kernel_rfl) (by kernel_rfl) (by kernel_rfl) (fun _ _ _ _ h => h) (by rfl) ?hy615 hS ?rest615
                  case hy615 => (intro wS hSw; (try dsimp only at hSw); go_split_ands; go_simp; try with_reducible rfl)
                  simp only [List.setIfInBounds_toArray, List.set_cons_zero, List.set_cons_succ]
                  refine take_at 7 71 (v := ?vv616) rfl rfl (by kernel_rfl) (by kernel_rfl) (by kernel_rfl) (fun _ _ _ _ h => h) (by rfl) ?hy616 hS ?rest616
                  case hy616 => (intro wS hSw; (try dsimp only at hSw); go_split_ands; go_simp; try with_reducible rfl)
                  simp only [List.setIfInBounds_toArray, List.set_cons_zero, List.set_cons_succ]
                  refine take_at 8 72 (v := ?vv617) rfl rfl (by kernel_rfl) (by kernel_rfl) (by kernel_rfl) (fun _ _ _ _ h => h) (by rfl) ?hy617 hS ?rest617
                  case hy617 => (intro wS hSw; (try dsimp only at hSw); go_split_ands; go_simp; try with_reducible rfl)
                  simp only [List.setIfInBounds_toArray, List.set_cons_zero, List.set_cons_succ]
                  refine take_at 9 73 (v := ?vv618) rfl rfl (by kernel_rfl) (by kernel_rfl) (by kernel_rfl) (fun _ _ _ _ h => h) (by rfl) ?hy618 hS ?rest618
                  case hy618 => (intro wS hSw; (try dsimp only at hSw); go_split_ands; go_simp; try with_reducible rfl)
                  simp only [List.setIfInBounds_toArray, List.set_cons_zero, List.set_cons_succ]
                  refine take_at 10 74 (v := ?vv619) rfl rfl (by kernel_rfl) (by kernel_rfl) (by kernel_rfl) (fun _ _ _ _ h => h) (by rfl) ?hy619 hS ?rest619
                  case hy619 => (intro wS hSw; (try dsimp only at hSw); go_split_ands; go_simp; try with_reducible rfl)
                  simp only [List.setIfInBounds_toArray, List.set_cons_zero, List.set_cons_succ]
                  refine wpAnyH_done (by kernel_rfl) ?_ _
                  refine Nrm.intro ?_
                  gi_wp2
                  obtain ⟨W9, hW9⟩ : ∃ W9, W9 = wr.drew := ⟨_, rfl⟩
                  have HR9 : Hid (Rd w W xb p ib Bs i sp len cap x mb (.slice a0 i c0') (.slice a1 m1 c1) (.slice (some ⟨g3, 0, none⟩) us.length c3) vs0 vs1 us m1 W9) := by rw [hW9]; exact HR.out.drew
                  have HROW9 : Hid (W9.ownsRow xb 91 1 (.slice au k cu) k (zs.map (Value.int .u64))) := by rw [hW9]; exact HROW.out
                  have HGB9 : Hid (W9.heap[g3]? = some (.cells cur 49 (0, 0)) ∧ xb ≤ g3 ∧ us[q]? = some (.slice au k cu)) := by rw [hW9]; exact HGB.out
                  rw [← hW9]
                  clear hS hW9 HR HROW HGB t1 t3 ti tq
                  have t1 := HR9.out.fr.bx.cell
                  have t3 := HR9.out.idx.c3
                  have ti := HR9.out.fr.bi.cell
                  have tq : W9.cell? ⟨g3, q, none⟩ = some (.slice au k cu) := by
                    obtain ⟨g3', c3', cur', hv', hgb', hcu', _⟩ := HR9.out.idx.hold_at HGB9.out.2.2
                    have : g3 = g3' := by simpa [Value.ownBlock] using congrArg Value.ownBlock hv'
                    subst this
                    exact (cell_of_row W9 g3 q cur' 49 _ hgb').trans hcu'
                  have hx9 : xb < W9.heap.size := HR9.out.idx.lt
                  have hg9 : g3 < W9.heap.size := (Array.getElem?_eq_some_iff.1 HGB9.out.1).1
                  obtain ⟨gu, curu, rfl, hgu, hcuu, hgge⟩ : ∃ gu curu, au = some ⟨gu, 0, none⟩ ∧ W9.heap[gu]? = some (.cells curu 91 (0, 0)) ∧ curu.toList.take k = zs.map (Value.int .u64) ∧ xb ≤ gu := by
                    rcases HROW9.out.2 with ⟨h1, h2⟩ | ⟨gu, cu', curu, h1, h2, h3, _, _, _, h7⟩
                    · omega
                    · injection h1 with h1a
                      exact ⟨gu, curu, h1a, h3, by simpa using h7, h2⟩
                  obtain ⟨z, hz⟩ : ∃ z, zs[jj]? = some z := ⟨_, List.getElem?_eq_getElem (by have := HROW9.out.1; simp at this; omega)⟩
                  have tw : W9.cell? ⟨gu, jj, none⟩ = some (.int .u64 z) := by
                    rw [cell_of_row W9 gu jj curu 91 _ hgu]
                    have e2 := congrArg (fun l : List Value => l[jj]?) hcuu
                    simp only [List.getElem?_map, hz, Option.map_some] at e2
                    rw [List.getElem?_take, if_pos (by omega)] at e2
                    simpa using e2
                  have tfz : W9.frozen? ⟨gu, jj, none⟩ = false := by simp [World.frozen?, hgu]
                  have hki : ((jj : Nat) : Int) < (k : Nat) := by omega
                  refine region_round (S := fun wx => wx.cell? ⟨p, 0, none⟩ = some (.pointer (some ⟨xb, 0, none⟩)) ∧ wx.cell? ⟨xb, 3, none⟩ = some (.slice (some ⟨g3, 0, none⟩) us.length c3) ∧ wx.cell? ⟨g3, q, none⟩ = some (.slice (some ⟨gu, 0, none⟩) k cu) ∧ wx.cell? ⟨ib, 0, none⟩ = some (.int .i64 (i : Nat))) hmx (by kernel_rfl) ⟨t1, t3, tq, ti⟩ (fun hS => ?_)
                  refine take_at 0 90 (v := ?vv133) rfl rfl (by kernel_rfl) (by kernel_rfl) (by kernel_rfl) (fun _ _ _ _ h => h) (by rfl) ?hy133 hS ?rest133
                  case hy133 => (intro wS hSw; (try dsimp only at hSw); go_split_ands; go_simp; try with_reducible rfl)
                  simp only [List.setIfInBounds_toArray, List.set_cons_zero, List.set_cons_succ]
                  refine take_at 1 91 (v := ?vv134) rfl rfl (by kernel_rfl) (by kernel_rfl) (by kernel_rfl) (fun _ _ _ _ h => h) (by rfl) ?hy134 hS ?rest134
                  case hy134 => (intro wS hSw; (try dsimp only at hSw); go_split_ands; go_simp; try with_reducible rfl)
                  simp only [List.setIfInBounds_toArray, List.set_cons_zero, List.set_cons_succ]
                  refine take_at 2 92 (v := ?vv135) rfl rfl (by kernel_rfl) (by kernel_rfl) (by kernel_rfl) (fun _ _ _ _ h => h) (by rfl) ?hy135 hS ?rest135
                  case hy135 => (intro wS hSw; (try dsimp only at hSw); go_split_ands; go_simp; try with_reducible rfl)
                  simp only [List.setIfInBounds_toArray, List.set_cons_zero, List.set_cons_succ]
                  refine take_at 3 93 (v := ?vv136) rfl rfl (by kernel_rfl) (by kernel_rfl) (by kernel_rfl) (fun _ _ _ _ h => h) (by rfl) ?hy136 hS ?rest136
                  case hy136 => (intro wS hSw; (try dsimp only at hSw); go_split_ands; go_simp; try with_reducible rfl)
                  simp only [List.setIfInBounds_toArray, List.set_cons_zero, List.set_cons_succ]
                  refine take_at 4 94 (v := ?vv137) rfl rfl (by kernel_rfl) (by kernel_rfl) (by kernel_rfl) (fun _ _ _ _ h => h) (by rfl) ?hy137 hS ?rest137
                  case hy137 => (intro wS hSw; (try dsimp only at hSw); go_split_ands; go_simp; try with_reducible rfl)
                  simp only [List.setIfInBounds_toArray, List.set_cons_zero, List.set_cons_succ]
                  refine take_at 5 95 (v := ?vv138) rfl rfl (by kernel_rfl) (by kernel_rfl) (by kernel_rfl) (fun _ _ _ _ h => h) (by rfl) ?hy138 hS ?rest138
                  case hy138 => (intro wS hSw; (try dsimp only at hSw); go_split_ands; go_simp; try with_reducible rfl)
                  simp only [List.setIfInBounds_toArray, List.set_cons_zero, List.set_cons_succ]
                  refine take_at 6 96 (v := ?vv139) rfl rfl (by kernel_rfl) (by kernel_rfl) (by kernel_rfl) (fun _ _ _ _ h => h) (by rfl) ?hy139 hS ?rest139
                  case hy139 => (intro wS hSw; (try dsimp only at hSw); go_split_ands; go_simp; try with_reducible rfl)
                  simp only [List.setIfInBounds_toArray, List.set_cons_zero, List.set_cons_succ]
                  refine take_at 7 97 (v := ?vv140) rfl rfl (by kernel_rfl) (by kernel_rfl) (by kernel_rfl) (fun _ _ _ _ h => h) (by rfl) ?hy140 hS ?rest140
                  case hy140 => (intro wS hSw; (try dsimp only at hSw); go_split_ands; go_simp; try with_reducible rfl)
                  simp only [List.setIfInBounds_toArray, List.set_cons_zero, List.set_cons_succ]
                  refine take_at 8 98 (v := ?vv141) rfl rfl (by kernel_rfl) (by kernel_rfl) (by kernel_rfl) (fun _ _ _ _ h => h) (by rfl) ?hy141 hS ?rest141
                  case hy141 => (intro wS hSw; (try dsimp only at hSw); go_split_ands; go_simp; try with_reducible rfl)
                  simp only [List.setIfInBounds_toArray, List.set_cons_zero, List.set_cons_succ]
                  refine take_at 9 99 (v := ?vv142) rfl rfl (by kernel_rfl) (by kernel_rfl) (by kernel_rfl) (fun _ _ _ _ h => h) (by rfl) ?hy142 hS ?rest142
                  case hy142 => (intro wS hSw; (try dsimp only at hSw); go_split_ands; go_simp; try with_reducible rfl)
                  simp only [List.setIfInBounds_toArray, List.set_cons_zero, List.set_cons_succ]
                  refine take_at 11 101 (v := ?vv143) rfl rfl (by kernel_rfl) (by kernel_rfl) (by kernel_rfl) (fun _ _ _ _ h => h) (by rfl) ?hy143 hS ?rest143
                  case hy143 => (intro wS hSw; (try dsimp only at hSw); go_split_ands; go_simp; try with_reducible rfl)
                  simp only [List.setIfInBounds_toArray, List.set_cons_zero, List.set_cons_succ]
                  refine take_at 12 102 (v := ?vv144) rfl rfl (by kernel_rfl) (by kernel_rfl) (by kernel_rfl) (fun _ _ _ _ h => h) (by rfl) ?hy144 hS ?rest144
                  case hy144 => (intro wS hSw; (try dsimp only at hSw); go_split_ands; go_simp; try with_reducible rfl)
                  simp only [List.setIfInBounds_toArray, List.set_cons_zero, List.set_cons_succ]
                  refine take_at 13 103 (v := ?vv145) rfl rfl (by kernel_rfl) (by kernel_rfl) (by kernel_rfl) (fun _ _ _ _ h => h) (by rfl) ?hy145 hS ?rest145
                  case hy145 => (intro wS hSw; (try dsimp only at hSw); go_split_ands; go_simp; try with_reducible rfl)
                  simp only [List.setIfInBounds_toArray, List.set_cons_zero, List.set_cons_succ]
                  refine wpAnyH_ready (rs := [10]) (by kernel_rfl) (by simp) (AllReadyH.cons rfl (fun K hK => ?_) AllReadyH.nil)
                  go_simp
                  refine hK.out _ _ hS (fun hS => ?_)
                  refine take_at 14 104 (v := ?vv146) rfl rfl (by kernel_rfl) (by kernel_rfl) (by kernel_rfl) (fun _ _ _ _ h => h) (by rfl) ?hy146 hS ?rest146
                  case hy146 => (intro wS hSw; (try dsimp only at hSw); go_split_ands; go_simp; try with_reducible rfl)
                  simp only [List.setIfInBounds_toArray, List.set_cons_zero, List.set_cons_succ]
                  refine take_at 15 105 (v := ?vv147) rfl rfl (by kernel_rfl) (by kernel_rfl) (by kernel_rfl) (fun _ _ _ _ h => h) (by rfl) ?hy147 hS ?rest147
                  case hy147 => (intro wS hSw; (try dsimp only at hSw); go_split_ands; go_simp; try with_reducible rfl)
                  simp only [List.setIfInBounds_toArray, List.set_cons_zero, List.set_cons_succ]
                  refine wpAnyH_ready (rs := [16]) (by kernel_rfl) (by simp) (AllReadyH.cons rfl (fun K hK => ?_) AllReadyH.nil)
                  go_simp
                  have yR := bit_step (j := jj) (z := bits .or .u64 z ysh) HR9.out HGB9.out.2.2 hgu hgge
                  have hne : (⟨gu, jj, none⟩ : Addr) ≠ ⟨g3, q, none⟩ := fun e => ne_ty hgu HGB9.out.1 (by decide) (congrArg Addr.block e)
                  refine hK.out _ _ ⟨yR.fr.bx.cell, yR.idx.c3, (World.cell?_setCell_other _ _ _ _ hne).trans tq, yR.fr.bi.cell⟩ (fun _ => ?_)
                  refine wpAnyH_done (by kernel_rfl) ?_ _
                  refine Nrm.intro ?_
                  gi_wp2
                  exact ⟨yR.drew.oth, ⟨yR.drew.fr, yR.drew.bs, _, _, yR.drew.idx⟩, hq, hpl⟩
        case done =>
          rintro D ys W hD rfl ⟨hF, hbB, v3', us', hI⟩ hK
          have t1 := hF.bx.cell
          have t2 := hF.bs.cell
          have t0 := hI.c0
          have HF : Hid (Fr w W xb p ib i sp len cap x) := hF
          have HI : Hid (Idx W xb i (.slice a0 i c0') (.slice a1 m1 c1) (.map (some mb)) v3' vs0 vs1 us' m1) := hI
          have HKD : Hid (W.heap[D]? = some (.deferred (some []))) := hK
          have hxs : xb < W.heap.size := hI.lt
          obtain ⟨i51, hi51, hy0, hy1, hy2⟩ := info_parts info51x
          clear hF hbB hI hK h0
          go_wp2_with fail
          refine wp_region_noPanic ?_
          refine wp_region_held_drew (S := fun wx => wx.cell? ⟨p, 0, none⟩ = some (.pointer (some ⟨xb, 0, none⟩)) ∧ wx.cell? ⟨p + 1, 0, none⟩ = some (.slice sp len cap)) hmx ⟨t1, t2⟩ (fun hS => ?_)
          refine take_at 0 106 (v := ?vv901) rfl rfl (by kernel_rfl) (by kernel_rfl) (by kernel_rfl) (fun _ _ _ _ h => h) (by rfl) ?hy901 hS ?rest901
          case hy901 => (intro wS hSw; (try dsimp only at hSw); go_split_ands; go_simp; try with_reducible rfl)
          simp only [List.setIfInBounds_toArray, List.set_cons_zero, List.set_cons_succ]
          refine take_at 1 107 (v := ?vv902) rfl rfl (by kernel_rfl) (by kernel_rfl) (by kernel_rfl) (fun _ _ _ _ h => h) (by rfl) ?hy902 hS ?rest902
          case hy902 => (intro wS hSw; (try dsimp only at hSw); go_split_ands; go_simp; try with_reducible rfl)
          simp only [List.setIfInBounds_toArray, List.set_cons_zero, List.set_cons_succ]
          refine take_at 2 108 (v := ?vv903) rfl rfl (by kernel_rfl) (by kernel_rfl) (by kernel_rfl) (fun _ _ _ _ h => h) (by rfl) ?hy903 hS ?rest903
          case hy903 => (intro wS hSw; (try dsimp only at hSw); go_split_ands; go_simp; try with_reducible rfl)
          simp only [List.setIfInBounds_toArray, List.set_cons_zero, List.set_cons_succ]
          refine take_at 3 109 (v := ?vv904) rfl rfl (by kernel_rfl) (by kernel_rfl) (by kernel_rfl) (fun _ _ _ _ h => h) (by rfl) ?hy904 hS ?rest904
          case hy904 => (intro wS hSw; (try dsimp only at hSw); go_split_ands; go_simp; try with_reducible rfl)
          simp only [List.setIfInBounds_toArray, List.set_cons_zero, List.set_cons_succ]
          refine take_at 5 111 (v := ?vv905) rfl rfl (by kernel_rfl) (by kernel_rfl) (by kernel_rfl) (fun _ _ _ _ h => h) (by rfl) ?hy905 hS ?rest905
          case hy905 => (intro wS hSw; (try dsimp only at hSw); go_split_ands; go_simp; try with_reducible rfl)
          simp only [List.setIfInBounds_toArray, List.set_cons_zero, List.set_cons_succ]
          refine wpAnyH_ready (rs := [4, 6]) (by kernel_rfl) (by simp) (AllReadyH.cons rfl (fun K hK => ?_) (AllReadyH.cons rfl (fun K hK => ?_) AllReadyH.nil))
          · go_simp
            refine hK.out _ _ hS (fun hS => ?_)
            refine wpAnyH_ready (rs := [6]) (by kernel_rfl) (by simp) (AllReadyH.cons rfl (fun K hK => ?_) AllReadyH.nil)
            go_simp
            refine hK.out _ _ ⟨by go_keep, by go_keep⟩ (fun hS => ?_)
            refine wpAnyH_ready (rs := [7]) (by kernel_rfl) (by simp) (AllReadyH.cons rfl (fun K hK => ?_) AllReadyH.nil)
            refine step_append_lies _ rfl _ _ 47 rfl xb 51 i51 (.agg #[.slice none 0 0]) 1 24 Ybaf.underlying47 hi51 hy0 hy1 hy2 rfl (by decide) (.slice a0 i c0') i vs0 rfl (HI.out.sets.alloc _) ⟨W.heap.size, 0, none⟩ 1 1 [.slice sp len cap] rfl rfl (cell_one_new _ _ _) (by simp [Value.oneCell']) (by decide) (by unfold maxLen; omega) (by omega) (by simp; omega) _ rfl ?_
            intro g' cap' w6 hown hgrow hat hlt
            have hgrow' : (W.alloc (.cells #[.slice sp len cap] 51)).grownBy w6 (Value.slice a0 i c0').ownBlock := ⟨hgrow.os, hgrow.tape, hgrow.output, hgrow.size, hgrow.block⟩
            have yx := blk_grow HI.out.cells HI.out.sets (by decide) hgrow'
            have y1 : w6.cell? ⟨xb, 0, none⟩ = some (.slice a0 i c0') := by simp [World.cell?, yx]
            have y2 : w6.frozen? ⟨xb, 0, none⟩ = false := by simp [World.frozen?, yx]
            have yI := HI.out.sets_app hgrow' hown
            have yp : Boxed w6 p 33 (.pointer (some ⟨xb, 0, none⟩)) := (HF.out.bx.alloc _).kept hgrow' (fun e => by
              obtain ⟨cs, hc⟩ := own_ty HI.out.sets e.symm
              exact ne_ty hc HF.out.bx (by decide) rfl)
            have yp1 : Boxed w6 (p + 1) 51 (.slice sp len cap) := (HF.out.bs.alloc _).kept hgrow' (fun e => by have := HV0.out _ e.symm; omega)
            have hkf : Kpt (xb :: (Value.slice a0 i c0').ownBlock.toList) W (w6.setCell ⟨xb, 0, none⟩ (.slice (some ⟨g', 0, none⟩) (i + 1) cap')) := kpt_append hgrow'
            have hoth := kpt_others hkf (fun b hb => by
              rcases List.mem_cons.1 hb with rfl | hb
              · exact ⟨_, _, _, HI.out.cells⟩
              · obtain ⟨cs, hc⟩ := own_ty HI.out.sets (b := b) (by simpa [Option.mem_def] using hb)
                exact ⟨cs, _, _, hc⟩)
            have hbf : Below xb W (w6.setCell ⟨xb, 0, none⟩ (.slice (some ⟨g', 0, none⟩) (i + 1) cap')) := hkf.below (fun b hb => by
              rcases List.mem_cons.1 hb with rfl | hb
              · exact Nat.le_refl _
              · exact own_ge HI.out.sets (by simpa [Option.mem_def] using hb)) (by omega)
            refine hK.out _ _ ⟨yp.cell, yp1.cell⟩ (fun hS => ?_)
            change wpAnyH _ _ _ _ _ _ _ (Act.put _ (some 113) _) _
            simp only [Act.put, List.setIfInBounds_toArray, List.set_cons_zero, List.set_cons_succ]
            refine take_at 8 114 (v := ?vv906) rfl rfl (by kernel_rfl) (by kernel_rfl) (by kernel_rfl) (fun _ _ _ _ h => h) (by rfl) ?hy906 hS ?rest906
            case hy906 => (intro wS hSw; (try dsimp only at hSw); go_split_ands; go_simp; try with_reducible rfl)
            simp only [List.setIfInBounds_toArray, List.set_cons_zero, List.set_cons_succ]
            refine take_at 9 115 (v := ?vv907) rfl rfl (by kernel_rfl) (by kernel_rfl) (by kernel_rfl) (fun _ _ _ _ h => h) (by rfl) ?hy907 hS ?rest907
            case hy907 => (intro wS hSw; (try dsimp only at hSw); go_split_ands; go_simp; try with_reducible rfl)
            simp only [List.setIfInBounds_toArray, List.set_cons_zero, List.set_cons_succ]
            refine wpAnyH_ready (rs := [10]) (by kernel_rfl) (by simp) (AllReadyH.cons rfl (fun K hK => ?_) AllReadyH.nil)
            go_simp
            have hlo := HF.out.lo
            refine hK.out _ _ ⟨(World.cell?_setCell_other _ _ _ _ (fun e => by have := congrArg Addr.block e; simp at this; omega)).trans yp.cell, (World.cell?_setCell_other _ _ _ _ (fun e => by have := congrArg Addr.block e; simp at this; omega)).trans yp1.cell⟩ (fun _ => ?_)
            refine wpAnyH_done (by kernel_rfl) ?_ _
            refine NoPanic.normal ?_
            go_wp2_with fail
            have hK2 := hoth.same D _ HKD.out rfl
            refine ⟨by simp, .inl ⟨_, _, rfl, run_takeDeferred hK2, ?_⟩⟩
            refine ⟨_, results_none rfl _ _ _, rfl, ?_, _, _, _, _, _, _, _, _, yI.own (B := Bs + 1) (grownBy_putObj' _ D _) (fun r e => by cases e; exact ⟨by omega, _, hK2, rfl⟩) hmbB⟩
            exact (HF.out.bel.trans hbf).trans ((Below.refl xb _).grown (grownBy_putObj' _ D _) (by have := hbf.size; omega) (fun k e => by cases e; omega))
          · go_simp
            refine hK.out _ _ ⟨by go_keep, by go_keep⟩ (fun hS => ?_)
            refine wpAnyH_ready (rs := [4]) (by kernel_rfl) (by simp) (AllReadyH.cons rfl (fun K hK => ?_) AllReadyH.nil)
            go_simp
            refine hK.out _ _ hS (fun hS => ?_)
            refine wpAnyH_ready (rs := [7]) (by kernel_rfl) (by simp) (AllReadyH.cons rfl (fun K hK => ?_) AllReadyH.nil)
            refine step_append_lies _ rfl _ _ 47 rfl xb 51 i51 (.agg #[.slice none 0 0]) 1 24 Ybaf.underlying47 hi51 hy0 hy1 hy2 rfl (by decide) (.slice a0 i c0') i vs0 rfl (HI.out.sets.alloc _) ⟨W.heap.size, 0, none⟩ 1 1 [.slice sp len cap] rfl rfl (cell_one_new _ _ _) (by simp [Value.oneCell']) (by decide) (by unfold maxLen; omega) (by omega) (by simp; omega) _ rfl ?_
            intro g' cap' w6 hown hgrow hat hlt
            have hgrow' : (W.alloc (.cells #[.slice sp len cap] 51)).grownBy w6 (Value.slice a0 i c0').ownBlock := ⟨hgrow.os, hgrow.tape, hgrow.output, hgrow.size, hgrow.block⟩
            have yx := blk_grow HI.out.cells HI.out.sets (by decide) hgrow'
            have y1 : w6.cell? ⟨xb, 0, none⟩ = some (.slice a0 i c0') := by simp [World.cell?, yx]
            have y2 : w6.frozen? ⟨xb, 0, none⟩ = false := by simp [World.frozen?, yx]
            have yI := HI.out.sets_app hgrow' hown
            have yp : Boxed w6 p 33 (.pointer (some ⟨xb, 0, none⟩)) := (HF.out.bx.alloc _).kept hgrow' (fun e => by
              obtain ⟨cs, hc⟩ := own_ty HI.out.sets e.symm
              exact ne_ty hc HF.out.bx (by decide) rfl)
            have yp1 : Boxed w6 (p + 1) 51 (.slice sp len cap) := (HF.out.bs.alloc _).kept hgrow' (fun e => by have := HV0.out _ e.symm; omega)
            have hkf : Kpt (xb :: (Value.slice a0 i c0').ownBlock.toList) W (w6.setCell ⟨xb, 0, none⟩ (.slice (some ⟨g', 0, none⟩) (i + 1) cap')) := kpt_append hgrow'
            have hoth := kpt_others hkf (fun b hb => by
              rcases List.mem_cons.1 hb with rfl | hb
              · exact ⟨_, _, _, HI.out.cells⟩
              · obtain ⟨cs, hc⟩ := own_ty HI.out.sets (b := b) (by simpa [Option.mem_def] using hb)
                exact ⟨cs, _, _, hc⟩)
            have hbf : Below xb W (w6.setCell ⟨xb, 0, none⟩ (.slice (some ⟨g', 0, none⟩) (i + 1) cap')) := hkf.below (fun b hb => by
              rcases List.mem_cons.1 hb with rfl | hb
              · exact Nat.le_refl _
              · exact own_ge HI.out.sets (by simpa [Option.mem_def] using hb)) (by omega)
            refine hK.out _ _ ⟨yp.cell, yp1.cell⟩ (fun hS => ?_)
            change wpAnyH _ _ _ _ _ _ _ (Act.put _ (some 113) _) _
            simp only [Act.put, List.setIfInBounds_toArray, List.set_cons_zero, List.set_cons_succ]
            refine take_at 8 114 (v := ?vv908) rfl rfl (by kernel_rfl) (by kernel_rfl) (by kernel_rfl) (fun _ _ _ _ h => h) (by rfl) ?hy908 hS ?rest908
            case hy908 => (intro wS hSw; (try dsimp only at hSw); go_split_ands; go_simp; try with_reducible rfl)
            simp only [List.setIfInBounds_toArray, List.set_cons_zero, List.set_cons_succ]
            refine take_at 9 115 (v := ?vv909) rfl rfl (by kernel_rfl) (by kernel_rfl) (by kernel_rfl) (fun _ _ _ _ h => h) (by rfl) ?hy909 hS ?rest909
            case hy909 => (intro wS hSw; (try dsimp only at hSw); go_split_ands; go_simp; try with_reducible rfl)
            simp only [List.setIfInBounds_toArray, List.set_cons_zero, List.set_cons_succ]
            refine wpAnyH_ready (rs := [10]) (by kernel_rfl) (by simp) (AllReadyH.cons rfl (fun K hK => ?_) AllReadyH.nil)
            go_simp
            have hlo := HF.out.lo
            refine hK.out _ _ ⟨(World.cell?_setCell_other _ _ _ _ (fun e => by have := congrArg Addr.block e; simp at this; omega)).trans yp.cell, (World.cell?_setCell_other _ _ _ _ (fun e => by have := congrArg Addr.block e; simp at this; omega)).trans yp1.cell⟩ (fun _ => ?_)
            refine wpAnyH_done (by kernel_rfl) ?_ _
            refine NoPanic.normal ?_
            go_wp2_with fail
            have hK2 := hoth.same D _ HKD.out rfl
            refine ⟨by simp, .inl ⟨_, _, rfl, run_takeDeferred hK2, ?_⟩⟩
            refine ⟨_, results_none rfl _ _ _, rfl, ?_, _, _, _, _, _, _, _, _, yI.own (B := Bs + 1) (grownBy_putObj' _ D _) (fun r e => by cases e; exact ⟨by omega, _, hK2, rfl⟩) hmbB⟩
            exact (HF.out.bel.trans hbf).trans ((Below.refl xb _).grown (grownBy_putObj' _ D _) (by have := hbf.size; omega) (fun k e => by cases e; omega))

end Go.Proofs.YbulkbvduFmt

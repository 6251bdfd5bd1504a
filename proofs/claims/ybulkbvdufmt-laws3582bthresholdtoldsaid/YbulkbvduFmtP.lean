/-
  Seat b3582aF: slices.SortFunc over a row of sets, by the shelf's contract.
-/
import Derived.Test.YbulkbvduFmtShelf
import Derived.Test.YbulkbvduFmtG
namespace Go.Proofs.YbulkbvduFmt
open Go.RowKit Go.Shelf Go.Sort

/-- A set that lies in W, its word in a block of D. -/
def El (W : World) (D : Nat → Prop) : Type := { s : Option Addr × Nat × Nat × Nat // Wd W s.1 s.2.1 ((s.2.2.2 : Nat) : Int) ∧ ∀ a, s.1 = some a → D a.block ∧ a.block < W.heap.size }
def El.enc {W : World} {D : Nat → Prop} (s : El W D) : List Value := [.slice s.1.1 s.1.2.1 s.1.2.2.1]
def El.msk {W : World} {D : Nat → Prop} (s : El W D) : Nat := s.1.2.2.2
def El.cf {W : World} {D : Nat → Prop} (s t : El W D) : Int := cmpSet (s.msk : Int) (t.msk : Int)

theorem El.lt {W : World} {D : Nat → Prop} (s : El W D) : s.msk < 4096 := by
  have := s.2.1.bounds
  unfold El.msk
  omega
theorem El.ltOf_iff {W : World} {D : Nat → Prop} (s t : El W D) : ltOf El.cf s t = true ↔ before s.msk t.msk := by
  unfold ltOf El.cf
  rw [decide_eq_true_iff]
  exact cmpSet_neg _ _ s.lt t.lt
theorem El.ltOf_false {W : World} {D : Nat → Prop} (s t : El W D) : ltOf El.cf s t = false ↔ ¬ before s.msk t.msk := by
  rw [← El.ltOf_iff]; simp
theorem El.swo (W : World) (D : Nat → Prop) : SWO (ltOf (El.cf (W := W) (D := D))) where
  irrefl x := (El.ltOf_false x x).2 (before_irrefl _)
  trans x y z h1 h2 := (El.ltOf_iff x z).2 (before_trans ((El.ltOf_iff x y).1 h1) ((El.ltOf_iff y z).1 h2))
  ntrans x y z h1 h2 := by
    rw [El.ltOf_false] at *
    intro h
    by_cases e : before y.msk x.msk
    · exact h2 (before_trans e h)
    · have := before_total x.lt y.lt h1 e
      rw [this] at h
      exact h2 h

theorem lays_of_below {W W' : World} (h : RowKit.Below W.heap.size W W') (hd : W.drawn ≤ W'.drawn) : ∃ q os, W' = grow (W.drewN q) os := by
  refine ⟨W'.drawn - W.drawn, W'.heap.extract W.heap.size W'.heap.size, ?_⟩
  obtain ⟨h1, h2, h3, h4, h5⟩ := h
  cases W with
  | mk hp tp dr os out =>
    cases W' with
    | mk hp' tp' dr' os' out' =>
      simp only at h1 h2 h3 h4 h5 hd
      subst h1 h2 h3
      unfold grow World.drewN
      simp only
      congr 1
      · apply Array.ext_getElem?
        intro i
        by_cases hi : i < hp.size
        · rw [Array.getElem?_append_left hi, h5 i hi]
        · rw [Array.getElem?_append_right (by omega), Array.getElem?_extract]
          by_cases hi' : i < hp'.size
          · rw [if_pos (by omega)]; congr 1; omega
          · rw [if_neg (by omega), Array.getElem?_eq_none (by omega)]
      · omega

theorem wd_sort {W : World} {D : Nat → Prop} [Inhabited (El W D)] {blk off m : Nat} {dk : Array (El W D)} {os : Array Obj} (hD : ¬ D blk) (s : El W D) : Wd (sortWorldK El.enc 1 W blk off m dk os) s.1.1 s.1.2.1 ((s.1.2.2.2 : Nat) : Int) := by
  rcases s.2.1 with h | ⟨h1, h2, h3, b, o, hp, hc⟩
  · exact .inl h
  · refine .inr ⟨h1, h2, h3, b, o, hp, ?_⟩
    have hb := lt_of_cell hc
    unfold sortWorldK
    rw [cell?_grow _ _ _ (by rw [size_putRowK]; exact hb), cell?_putRowK_other _ _ _ _ _ _ _ (by intro e; exact hD (e ▸ (s.2.2 _ hp).1))]
    exact hc

theorem El.lays (W : World) (D : Nat → Prop) [Inhabited (El W D)] (blk off size : Nat) (hD : ¬ D blk) : CmpLays Ybaf.prog 22 #[] (El.enc (W := W) (D := D)) 1 El.cf blk off size W := fun m os dk _ x y => by
  refine (cmp_any x.1.1 y.1.1 x.1.2.1 y.1.2.1 x.1.2.2.1 y.1.2.2.1 _ _ _ (wd_sort hD x) (wd_sort hD y)).mono ?_
  rintro e w' ⟨rfl, hb, hd⟩
  exact ⟨rfl, lays_of_below hb hd⟩

/-- A row of sets: their masks. -/
def SetRow (W : World) (blk off : Nat) (D : Nat → Prop) (ms : List Nat) : Prop :=
  ∀ (i x : Nat), ms[i]? = some x → ∃ p len cap, W.cell? ⟨blk, off + i, none⟩ = some (.slice p len cap) ∧ W.frozen? ⟨blk, off + i, none⟩ = false ∧ Wd W p len (x : Int) ∧ ∀ a, p = some a → D a.block ∧ a.block < W.heap.size

theorem SetRow.mono {W : World} {blk off : Nat} {D D' : Nat → Prop} {ms : List Nat} (h : SetRow W blk off D ms) (hd : ∀ b, b < W.heap.size → D b → D' b) : SetRow W blk off D' ms := fun i x hx => by
  obtain ⟨p, len, cap, c, f, hw, hne⟩ := h i x hx
  exact ⟨p, len, cap, c, f, hw, fun a ha => ⟨hd _ (hne a ha).2 (hne a ha).1, (hne a ha).2⟩⟩
/-- What is written elsewhere leaves a row of sets. -/
theorem SetRow.keep {W W' : World} {blk off : Nat} {D : Nat → Prop} {ms : List Nat} (h : SetRow W blk off D ms) (hs : W.heap.size ≤ W'.heap.size) (hb : W'.heap[blk]? = W.heap[blk]?) (hd : ∀ b, b < W.heap.size → D b → W'.heap[b]? = W.heap[b]?) : SetRow W' blk off D ms := fun i x hx => by
  obtain ⟨p, len, cap, c, f, hw, hne⟩ := h i x hx
  refine ⟨p, len, cap, (World.cell?_of_block hb).trans c, (World.frozen?_of_block hb).trans f, ?_, fun a ha => ⟨(hne a ha).1, Nat.lt_of_lt_of_le (hne a ha).2 hs⟩⟩
  rcases hw with hw | ⟨h1, h2, h3, b, o, hp, hc⟩
  · exact .inl hw
  · exact .inr ⟨h1, h2, h3, b, o, hp, (World.cell?_of_block (hd b (lt_of_cell hc) (hne _ hp).1)).trans hc⟩
theorem SetRow.later {W W' : World} {blk off : Nat} {D : Nat → Prop} {ms : List Nat} (h : SetRow W blk off D ms) (hblk : blk < W.heap.size) (hb : RowKit.Below W.heap.size W W') : SetRow W' blk off D ms :=
  h.keep hb.size (hb.block _ hblk) (fun b hlt _ => hb.block b hlt)

theorem SetRow.els {W : World} {blk : Nat} {D : Nat → Prop} : ∀ (ms : List Nat) (off : Nat), SetRow W blk off D ms → ∃ d : List (El W D), d.map El.msk = ms ∧ ∀ i s, d[i]? = some s → W.cell? ⟨blk, off + i, none⟩ = some (.slice s.1.1 s.1.2.1 s.1.2.2.1) ∧ W.frozen? ⟨blk, off + i, none⟩ = false
  | [], _, _ => ⟨[], rfl, by simp⟩
  | x :: r, off, h => by
    obtain ⟨d, h1, h2⟩ := SetRow.els r (off + 1) (fun i y hy => by
      have := h (i + 1) y (by simpa using hy)
      rwa [show off + (i + 1) = off + 1 + i by omega] at this)
    obtain ⟨p, len, cap, c, f, hw, hne⟩ := h 0 x rfl
    obtain ⟨e, he⟩ : ∃ e : El W D, e.1 = (p, len, cap, x) := ⟨⟨(p, len, cap, x), hw, hne⟩, rfl⟩
    refine ⟨e :: d, by rw [List.map_cons, h1]; simp [El.msk, he], fun i s hs => ?_⟩
    cases i with
    | zero =>
      obtain rfl : e = s := by simpa using hs
      rw [he]; exact ⟨c, f⟩
    | succ i =>
      have := h2 i s (by simpa using hs)
      rwa [show off + 1 + i = off + (i + 1) by omega] at this

theorem sort_any (blk off cap : Nat) (D : Nat → Prop) (hD : ¬ D blk) (ms : List Nat) (W : World) (h : SetRow W blk off D ms) (hblk : blk < W.heap.size) (hsz : ms.length < 4611686018427387904) :
    Calls Ybaf.prog 21 #[.slice (some ⟨blk, off, none⟩) ms.length cap, .func (.func 22) #[] #[]] W fun e W' => e = .returned (.tuple #[]) ∧
      ∃ ms', ms'.Perm ms ∧ (∀ (i j x y : Nat), i < j → ms'[i]? = some x → ms'[j]? = some y → ¬ before y x) ∧ SetRow W' blk off D ms' ∧ W.grownBy W' (some blk) := by
  obtain ⟨d, h1, h2⟩ := SetRow.els ms off h
  have eg : ∀ args w, (callFunc 22 args).run Ybaf.prog w = .ok (.enter 22 args) w := enters_of Ybaf.func22 (by kernel_rfl) rfl
  have hl : d.length = ms.length := by rw [← h1]; simp
  have hinh : Inhabited (El W D) := ⟨⟨(none, 0, 0, 0), .inl ⟨rfl, rfl⟩, by simp⟩⟩
  have hH : HoldsK El.enc 1 W blk off d.toArray := by
    intro t ht
    rw [size_flatK] at ht
    rw [get_flatK _ _ _ t ht]
    have ht' : t < d.length := by simpa using ht
    obtain ⟨a, b⟩ := h2 t d[t] (List.getElem?_eq_getElem ht')
    refine ⟨?_, b⟩
    rw [a]
    simp [El.enc, Nat.mod_one, ht']
  have hcon := AnyQ.slices_SortFunc Ybaf.sortSet 1 Ybaf.isAgg51 Ybaf.sizeOf51 (El.enc (W := W) (D := D)) (fun _ => rfl) (fun x v hv => by simp [El.enc] at hv; subst hv; rfl) El.cf (El.swo W D) 22 #[] blk off cap d.toArray W eg (El.lays W D blk off _ hD) hH hblk (by simpa [hl] using hsz)
  change Calls Ybaf.prog 21 _ _ _ at hcon
  simp only [List.size_toArray, hl] at hcon
  refine hcon.mono ?_
  rintro e W' ⟨rfl, d', n, os, hp, hs, rfl⟩
  obtain ⟨p1, p2, p3⟩ := hp
  have hd' : d'.size = ms.length := by rw [p1]; simp [hl]
  have hHK := holdsK_sortWorldK_c El.enc 1 W blk off d.toArray d' n os hH hblk (by rw [p1])
  have hget : ∀ i x, (d'.toList.map El.msk)[i]? = some x → i < d'.size ∧ El.msk d'[i]! = x := fun i x hx => by
    rw [List.getElem?_map] at hx
    by_cases hi : i < d'.size
    · refine ⟨hi, ?_⟩
      rw [getElem!_pos d' i hi]
      simpa [hi] using hx
    · rw [List.getElem?_eq_none (by simpa using hi)] at hx; cases hx
  refine ⟨rfl, d'.toList.map El.msk, ?_, fun i j x y hij hx hy => ?_, fun i x hx => ?_, ?_⟩
  · rw [← h1]
    have e1 : (d'.extract 0 ms.length).toList = d'.toList := by rw [← hd']; simp
    have e2 : (d.toArray.extract 0 ms.length).toList = d := by rw [← hl]; simp
    rw [e1, e2] at p3
    exact p3.map _
  · obtain ⟨hi, rfl⟩ := hget i x hx
    obtain ⟨hj, rfl⟩ := hget j y hy
    exact (El.ltOf_false _ _).1 (hs i j (Nat.zero_le _) hij (by omega))
  · obtain ⟨hi, rfl⟩ := hget i x hx
    obtain ⟨a, b⟩ := hHK.cell hi (show 0 < 1 by omega)
    simp only [Nat.mul_one, Nat.add_zero] at a b
    exact ⟨d'[i]!.1.1, d'[i]!.1.2.1, d'[i]!.1.2.2.1, a, b, wd_sort hD _, fun q hq => ⟨(d'[i]!.2.2 q hq).1, Nat.lt_of_lt_of_le (d'[i]!.2.2 q hq).2 (size_sortWorldK_c El.enc 1 W blk off n d' os)⟩⟩
  · refine ⟨rfl, rfl, rfl, size_sortWorldK_c El.enc 1 W blk off n d' os, fun k hk hne => ?_⟩
    unfold sortWorldK
    rw [heap_grow_old _ _ (by rw [size_putRowK]; exact hk)]
    show (W.heap.modify blk _)[k]? = _
    rw [Array.getElem?_modify, if_neg (by intro e; exact hne (by rw [e]))]

end Go.Proofs.YbulkbvduFmt

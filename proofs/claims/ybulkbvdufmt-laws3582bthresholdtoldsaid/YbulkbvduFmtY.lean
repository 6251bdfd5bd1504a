/-
  Seat b3582aF: bits.TrailingZeros64, Set.members and its closure, Set.Members.
-/
import Derived.Test.YbulkbvduFmtN
import Derived.Test.YbulkbvduFmtShelf
import Derived.Shelf.RegionOpen
import Derived.Laws.BitsAllLaws
namespace Go.Proofs.YbulkbvduFmt
open Go.RowKit Go.Shelf

attribute [local go_sem] Oper.semAt_some

/-- The table of math/bits lies where it was laid. -/
abbrev Tab (W : World) : Prop := TabAt (Ybaf.tz64_ren.g 1) Lib.deBruijn64tab W

theorem tz_any (x : Nat) (hx : x < 4096) (w : World) (hT : Tab w) : Calls Ybaf.prog 39 #[.int .u64 (x : Nat)] w fun e w' => e = .returned (.int .i64 (Lib.ctz 64 x : Nat)) ∧ w' = w := by
  have h := Any7.bits_TrailingZeros64 Ybaf.tz64 x (by omega) w (fun _ => hT)
  exact h

/-- The members of a mask, ascending. -/
def memL : Nat → Nat → List Nat
  | 0, _ => []
  | k + 1, x => if x = 0 then [] else Lib.ctz 64 x :: memL k (x &&& (x - 1))
theorem ctz_lt2 : ∀ a b : Fin 64, 64 * a.val + b.val ≠ 0 → Lib.ctz 64 (64 * a.val + b.val) < 12 := by decide +kernel
theorem ctz_lt (x : Nat) (h : x < 4096) (h0 : x ≠ 0) : Lib.ctz 64 x < 12 := by
  have := ctz_lt2 ⟨x / 64, by omega⟩ ⟨x % 64, by omega⟩
  have e : 64 * (x / 64) + x % 64 = x := by omega
  simp only [e] at this
  exact this h0
theorem pop_less2 : ∀ a b : Fin 64, 64 * a.val + b.val ≠ 0 → pop 12 ((64 * a.val + b.val) &&& (64 * a.val + b.val - 1)) + 1 = pop 12 (64 * a.val + b.val) := by decide +kernel
theorem pop_less (x : Nat) (h : x < 4096) (h0 : x ≠ 0) : pop 12 (x &&& (x - 1)) + 1 = pop 12 x := by
  have := pop_less2 ⟨x / 64, by omega⟩ ⟨x % 64, by omega⟩
  have e : 64 * (x / 64) + x % 64 = x := by omega
  simp only [e] at this
  exact this h0
theorem memL_ones : ∀ k : Fin 13, memL 12 (2 ^ k.val - 1) = List.range k.val := by decide +kernel

theorem memL_len : ∀ k x, (memL k x).length ≤ k
  | 0, _ => by simp [memL]
  | k + 1, x => by have := memL_len k (x &&& (x - 1)); simp only [memL]; split <;> simp; exact this
theorem memL_zero : ∀ f, memL f 0 = []
  | 0 => rfl
  | _ + 1 => rfl

/-- What the closure of members has captured. -/
def MCap (Bs : Nat) (p : Option Addr) (len cap x : Nat) (W : World) : Prop := W.cell? ⟨Bs, 0, none⟩ = some (.slice p len cap) ∧ Wd W p len (x : Int) ∧ Tab W

theorem and_pred (y : Nat) (h : y < 4096) (h0 : y ≠ 0) : bits .and .u64 ((y : Nat) : Int) (IntKind.u64.wrap ((y : Int) - 1)) = ((y &&& (y - 1) : Nat) : Int) := by
  have e : IntKind.u64.wrap ((y : Int) - 1) = ((y - 1 : Nat) : Int) := by rw [IntKind.wrap_u64]; omega
  rw [e, u64_and_nat _ _ (by omega) (by omega)]

set_option maxRecDepth 100000 in
set_option maxHeartbeats 4000000 in
theorem members_gives (m Bs : Nat) (hm : 2 ≤ m) (p : Option Addr) (len cap x : Nat) (I : List Nat → World → Prop) (hI : ∀ pre W, I pre W → MCap Bs p len cap x W) :
    Gives Fence.wide m Ybaf.prog 38 #[.pointer (some ⟨Bs, 0, none⟩)] (fun q : Nat => #[.int .i64 (q : Nat)]) I (fun pre q _ => q < 12 ∧ pre.length < 12) (fun xs => xs = memL 12 x) := by
  intro l J W hJ hJI hY h0
  have HC : Hid _ := fun (pre : List Nat) (A : World) (h : J pre A) => hI pre A (hJI _ _ h)
  have HY : Hid _ := hY
  clear hJ hJI hI hY
  obtain ⟨k0, k1, k2⟩ := HC.out _ _ h0
  have hm1 : 1 ≤ m := by omega
  have hm2 : 1 ≤ m - 1 := by omega
  refine callsIn_of_wp Ybaf.func38 rfl trivial ?_ rfl
  simp only [Ybaf.ntmps38, List.size_toArray, List.length_cons, List.length_nil, Nat.reduceAdd, Nat.reduceSub, Array.replicate_succ, Array.replicate_zero, List.push_toArray, List.append_toArray, List.nil_append, List.cons_append]
  rcases k1 with ⟨rfl, hx0⟩ | ⟨rfl, hx1, hx2, b, o, rfl, hc⟩
  · obtain rfl : x = 0 := by omega
    clear k2
    gi_wp2
    gi_loopw [8] (fun i wr => i = .int .i64 0 ∧ J [] wr) (fun _ _ => 0)
    case atStart => exact ⟨rfl, h0⟩
    case round =>
      obtain ⟨rfl, hJs⟩ := hrel
      gi_wp2
      go_end0
      exact ⟨⟨_, rfl⟩, [], rfl, hJs⟩
  · clear k2
    have HX : Hid (x ≠ 0 ∧ x < 4096) := ⟨by omega, by omega⟩
    have hxi : 0 < x := by omega
    clear hx1 hx2
    gi_wp2
    gi_loopw [8] (fun i wr => (i = .int .i64 0 ∧ J [] wr) ∨ (i = .int .i64 1 ∧ J (memL 12 x) wr)) (fun i _ => 1 - (intOf i).toNat)
    case atStart => exact .inl ⟨rfl, h0⟩
    case round =>
      rcases hrel with ⟨rfl, hJs⟩ | ⟨rfl, hJs⟩
      · obtain ⟨q0, q1, q2⟩ := HC.out _ _ hJs
        have hcw : wr.cell? ⟨b, o, none⟩ = some (.int .u64 (x : Nat)) := by
          rcases q1 with ⟨h, _⟩ | ⟨_, _, _, b', o', hp, hc'⟩
          · cases h
          · cases hp; exact hc'
        clear q1 q2
        gi_wp2
        gi_loopw [4] (fun c wr => ∃ (f y : Nat) (pre : List Nat), y < 4096 ∧ c = .int .u64 (y : Nat) ∧ pre ++ memL f y = memL 12 x ∧ pop 12 y ≤ f ∧ J pre wr) (fun c _ => pop 12 (intOf c).toNat)
        case atStart => exact ⟨12, x, [], HX.out.2, rfl, rfl, (by
          have : ∀ k y, pop k y ≤ k := by
            intro k
            induction k with
            | zero => intro y; simp [pop]
            | succ k ih => intro y; have := ih (y / 2); simp only [pop]; omega
          exact this 12 x), hJs⟩
        case round =>
          obtain ⟨f, y, pre, hy, rfl, hpre, hpf, hJy⟩ := hrel
          obtain ⟨r0, r1, r2⟩ := HC.out _ _ hJy
          by_cases hy0 : y = 0
          · subst hy0
            rw [memL_zero, List.append_nil] at hpre
            subst hpre
            clear r0 r1 r2
            gi_wp2
            exact ⟨.inr ⟨rfl, hJy⟩, by simp [intOf]⟩
          · have hne : (((y : Nat) : Int) != 0) = true := by rw [bne_iff_ne]; omega
            have hpl := pop_less y hy hy0
            obtain ⟨f', rfl⟩ : ∃ f', f = f' + 1 := ⟨f - 1, by omega⟩
            have hq := ctz_lt y hy hy0
            rw [show memL (f' + 1) y = Lib.ctz 64 y :: memL f' (y &&& (y - 1)) by simp [memL, hy0]] at hpre
            obtain ⟨fn, tmps, assign, body, hyy, hR⟩ := HY.out pre (Lib.ctz 64 y) wr hJy ⟨hq, by have := memL_len 12 x; rw [← hpre] at this; simp at this; omega⟩
            have HT : Hid _ := fun (_ : Unit) => tz_any y hy wr r2
            obtain ⟨q, hqe⟩ : ∃ q, q = Lib.ctz 64 y := ⟨_, rfl⟩
            rw [← hqe] at hpre hq hR hyy HT
            have HA : Hid _ := and_pred y hy hy0
            have HP : Hid _ := hpre
            have HPL : Hid _ := hpl
            clear hpre hqe hpl r0 r1 r2 hy0
            gi_wp2_with (refine ⟨trivial, ?_⟩; gi_at_call 39; refine (callsIn_wide.2 (HT.out ())).mono ?_; rintro e w' ⟨rfl, rfl⟩)
            refine hR.mono ?_
            rintro e W3 ⟨rfl, hJ3, _⟩
            gi_wp2
            rw [HA.out]
            refine ⟨⟨f', y &&& (y - 1), pre ++ [q], Nat.lt_of_le_of_lt Nat.and_le_left hy, rfl, by simpa using HP.out, by have := HPL.out; omega, hJ3⟩, ?_⟩
            have := HPL.out
            simp only [intOf, Int.toNat_natCast]
            omega
      · clear hc
        gi_wp2
        go_end0
        exact ⟨⟨_, rfl⟩, memL 12 x, rfl, hJs⟩

set_option maxHeartbeats 1000000 in
theorem mem_any (p : Option Addr) (len cap : Nat) (w : World) : Calls Ybaf.prog 27 #[setV p len cap] w fun e w' => e = .returned (.func (.func 38) #[] #[.pointer (some ⟨w.heap.size, 0, none⟩)]) ∧ w' = w.alloc (.cells #[.slice p len cap] 51) := by
  go_enter Ybaf.func27, Ybaf.ntmps27
  go_wp2
  go_ret
  exact ⟨rfl, rfl⟩

/-- What holds between two rounds of Members. -/
def Im (w : World) (B : Nat) (p : Option Addr) (len cap x : Nat) (pre : List Nat) (W : World) : Prop :=
  (Boxed W (B + 2) 51 (.slice p len cap) ∧ Wd W p len (x : Int) ∧ Tab W) ∧ Below w.heap.size w W ∧ B + 3 ≤ W.heap.size ∧ ∃ v, Boxed W (B + 1) 31 v ∧ W.ownsRow B 3 1 v pre.length (pre.map fun q => .int .i64 ((q : Nat) : Int))

theorem tab_kept {W W' : World} {row : Option Nat} (h : Tab W) (hg : W.grownBy W' row) (hr : ∀ r, row = some r → ∃ o : Obj, W.heap[r]? = some o ∧ o.isCells = false) : Tab W' := fun j hj => cell_kept (h j hj) hg hr
theorem wd_kept {W W' : World} {row : Option Nat} {p : Option Addr} {len : Nat} {x : Int} (h : Wd W p len x) (hg : W.grownBy W' row) (hr : ∀ r, row = some r → ∃ o : Obj, W.heap[r]? = some o ∧ o.isCells = false) : Wd W' p len x := by
  rcases h with h | ⟨h1, h2, h3, b, o, hp, hc⟩
  · exact .inl h
  · exact .inr ⟨h1, h2, h3, b, o, hp, cell_kept hc hg hr⟩
theorem mcap_kept {W W' : World} {row : Option Nat} {Bs : Nat} {p : Option Addr} {len cap x : Nat} (h : MCap Bs p len cap x W) (hg : W.grownBy W' row) (hr : ∀ r, row = some r → ∃ o : Obj, W.heap[r]? = some o ∧ o.isCells = false) : MCap Bs p len cap x W' :=
  ⟨cell_kept h.1 hg hr, wd_kept h.2.1 hg hr, tab_kept h.2.2 hg hr⟩
theorem row_kept {W W' : World} {row : Option Nat} {base : Nat} {e : TypeId} {size : Nat} {v : Value} {m : Nat} {vs : List Value} (h : W.ownsRow base e size v m vs) (hg : W.grownBy W' row) (hr : ∀ r, row = some r → ∃ o : Obj, W.heap[r]? = some o ∧ o.isCells = false) : W'.ownsRow base e size v m vs := by
  refine h.kept hg ?_
  rcases h.2 with ⟨rfl, _⟩ | ⟨g, cap, cur, rfl, _, hgb, _⟩
  · exact .inl rfl
  · refine .inr fun e' => ?_
    obtain ⟨o, ho, hc⟩ := hr g (by simpa [Value.ownBlock] using e'.symm)
    rw [hgb] at ho; cases ho; cases hc
theorem box_kept {W W' : World} {row : Option Nat} {B : Nat} {t : TypeId} {v : Value} (h : Boxed W B t v) (hg : W.grownBy W' row) (hr : ∀ r, row = some r → ∃ o : Obj, W.heap[r]? = some o ∧ o.isCells = false) : Boxed W' B t v :=
  h.kept hg (fun e' => by
    obtain ⟨o, ho, hc⟩ := hr _ e'.symm
    rw [show W.heap[B]? = _ from h] at ho; cases ho; cases hc)
theorem Im.own (w : World) (B : Nat) (p : Option Addr) (len cap x : Nat) (hB : w.heap.size ≤ B) : OwnFrom (B + 3) (Im w B p len cap x) := by
  rintro pre A A' row ⟨h1, h2, h3, v, h4, h5⟩ hg hr
  have hr' : ∀ r, row = some r → ∃ o : Obj, A.heap[r]? = some o ∧ o.isCells = false := fun r e => (hr r e).2
  exact ⟨⟨box_kept h1.1 hg hr', wd_kept h1.2.1 hg hr', tab_kept h1.2.2 hg hr'⟩, h2.grown hg h2.size (fun q e => by have := (hr q e).1; omega), Nat.le_trans h3 hg.size, v, box_kept h4 hg hr', row_kept h5 hg hr'⟩

theorem wd_below {W W' : World} {p : Option Addr} {len : Nat} {x : Int} {n : Nat} (h : Wd W p len x) (hb : Below n W W') (hp : ∀ a, p = some a → len = 1 → a.block < n) : Wd W' p len x := by
  rcases h with h | ⟨h1, h2, h3, b, o, hp', hc⟩
  · exact .inl h
  · exact .inr ⟨h1, h2, h3, b, o, hp', (hb.cell (p := ⟨b, o, none⟩) (hp _ hp' h1)).trans hc⟩
theorem wd_lt {W : World} {p : Option Addr} {len : Nat} {x : Int} (h : Wd W p len x) : ∀ a, p = some a → len = 1 → a.block < W.heap.size := by
  rcases h with ⟨h, _⟩ | ⟨h1, h2, h3, b, o, hp', hc⟩
  · intro a _ h1; omega
  · intro a ha _; rw [hp'] at ha; cases ha; exact lt_of_cell hc
theorem tab_below {W W' : World} {n : Nat} (h : Tab W) (hb : Below n W W') (hn : Ybaf.tz64_ren.g 1 < n) : Tab W' := fun j hj => (hb.cell (p := ⟨_, j, none⟩) hn).trans (h j hj)
theorem tab_lt {W : World} (h : Tab W) : Ybaf.tz64_ren.g 1 < W.heap.size := World.block_lt_of_cell? _ _ (h 0 (by decide +kernel))

end Go.Proofs.YbulkbvduFmt

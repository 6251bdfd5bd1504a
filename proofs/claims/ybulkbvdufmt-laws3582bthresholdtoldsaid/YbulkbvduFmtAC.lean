/-
  Seat b3582aF: a SubsetIndex as add builds it: what holds of it, and what each write leaves.
-/
import Derived.Test.YbulkbvduFmtV
import Derived.RangeFuncBox
import Derived.Deep.AppendLies
namespace Go.Proofs.YbulkbvduFmt
open Go.RowKit Go.Maps

/-- All blocks but those of L are as they were. -/
structure Kpt (L : List Nat) (W W' : World) : Prop where
  os : W'.os = W.os
  tape : W'.tape = W.tape
  output : W'.output = W.output
  size : W.heap.size ≤ W'.heap.size
  block : ∀ b, b < W.heap.size → b ∉ L → W'.heap[b]? = W.heap[b]?
theorem Kpt.below {L : List Nat} {n : Nat} {W W' : World} (h : Kpt L W W') (hL : ∀ b ∈ L, n ≤ b) (hn : n ≤ W.heap.size) : Below n W W' :=
  ⟨h.os, h.tape, h.output, h.size, fun b hb => h.block b (by omega) (fun hm => by have := hL b hm; omega)⟩
theorem Kpt.of_below {W W' : World} (h : Below W.heap.size W W') : Kpt [] W W' := ⟨h.os, h.tape, h.output, h.size, fun b hb _ => h.block b hb⟩
theorem Kpt.trans {L : List Nat} {A B C : World} (h : Kpt L A B) (k : Kpt L B C) : Kpt L A C :=
  ⟨k.os.trans h.os, k.tape.trans h.tape, k.output.trans h.output, Nat.le_trans h.size k.size, fun b hb hL => (k.block b (Nat.lt_of_lt_of_le hb h.size) hL).trans (h.block b hb hL)⟩
theorem Kpt.mono {L L' : List Nat} {A B : World} (h : Kpt L A B) (hL : ∀ b ∈ L, b ∈ L') : Kpt L' A B := ⟨h.os, h.tape, h.output, h.size, fun b hb hn => h.block b hb (fun hm => hn (hL b hm))⟩

/-- The blocks of L that are cells of type e: none. -/
def NotTy (W : World) (e : TypeId) (L : List Nat) : Prop := ∀ b ∈ L, ∀ cs fr, W.heap[b]? ≠ some (.cells cs e fr)

theorem row_kpt {L : List Nat} {W W' : World} {base : Nat} {e : TypeId} {v : Value} {n : Nat} {xs : List Value} (h : W.ownsRow base e 1 v n xs) (hk : Kpt L W W') (hn : NotTy W e L) : W'.ownsRow base e 1 v n xs := by
  refine ⟨h.1, ?_⟩
  rcases h.2 with h | ⟨g, cap, cur, hv, hge, hgb, r⟩
  · exact .inl h
  · exact .inr ⟨g, cap, cur, hv, hge, (hk.block g (Array.getElem?_eq_some_iff.1 hgb).1 (fun hm => hn g hm _ _ hgb)).trans hgb, r⟩
theorem row_kpt' {L : List Nat} {W W' : World} {base : Nat} {e : TypeId} {v : Value} {n : Nat} {xs : List Value} (h : W.ownsRow base e 1 v n xs) (hk : Kpt L W W') (hn : ∀ b, v.ownBlock = some b → b ∉ L) : W'.ownsRow base e 1 v n xs := by
  refine ⟨h.1, ?_⟩
  rcases h.2 with h | ⟨g, cap, cur, rfl, hge, hgb, r⟩
  · exact .inl h
  · exact .inr ⟨g, cap, cur, rfl, hge, (hk.block g (Array.getElem?_eq_some_iff.1 hgb).1 (hn g rfl)).trans hgb, r⟩
theorem box_kpt {L : List Nat} {W W' : World} {B : Nat} {t : TypeId} {v : Value} (h : Boxed W B t v) (hk : Kpt L W W') (hn : B ∉ L) : Boxed W' B t v := (hk.block B h.lt hn).trans h
theorem own_ty {W : World} {base : Nat} {e : TypeId} {v : Value} {n : Nat} {xs : List Value} (h : W.ownsRow base e 1 v n xs) {b : Nat} (hb : v.ownBlock = some b) : ∃ cs, W.heap[b]? = some (.cells cs e (0, 0)) := by
  rcases h.2 with ⟨rfl, _⟩ | ⟨g, cap, cur, rfl, _, hgb, _⟩
  · simp [Value.ownBlock] at hb
  · obtain rfl : g = b := by simpa [Value.ownBlock] using hb
    exact ⟨cur, hgb⟩
theorem own_ge {W : World} {base : Nat} {e : TypeId} {v : Value} {n : Nat} {xs : List Value} (h : W.ownsRow base e 1 v n xs) {b : Nat} (hb : v.ownBlock = some b) : base ≤ b := by
  rcases h.2 with ⟨rfl, _⟩ | ⟨g, cap, cur, rfl, hge, _⟩
  · simp [Value.ownBlock] at hb
  · obtain rfl : g = b := by simpa [Value.ownBlock] using hb
    exact hge
theorem row_form {W : World} {base : Nat} {e : TypeId} {v : Value} {n : Nat} {xs : List Value} (h : W.ownsRow base e 1 v n xs) : ∃ a c, v = .slice a n c := by
  rcases h.2 with ⟨rfl, rfl⟩ | ⟨g, cap, cur, rfl, _⟩
  · exact ⟨_, _, rfl⟩
  · exact ⟨_, _, rfl⟩

/-- The keys. -/
def MapOk (W : World) (xb : Nat) (mv : Value) : Prop := mv = .map none ∨ ∃ mb es clock, mv = .map (some mb) ∧ xb < mb ∧ W.heap[mb]? = some (.map es clock) ∧ StrKeys es
theorem MapOk.kpt {L : List Nat} {W W' : World} {xb : Nat} {mv : Value} (h : MapOk W xb mv) (hk : Kpt L W W') (hn : ∀ b ∈ L, ∀ es c, W.heap[b]? ≠ some (.map es c)) : MapOk W' xb mv := by
  rcases h with h | ⟨mb, es, clock, h1, h2, h3, h4⟩
  · exact .inl h
  · exact .inr ⟨mb, es, clock, h1, h2, (hk.block mb (Array.getElem?_eq_some_iff.1 h3).1 (fun hm => hn mb hm _ _ h3)).trans h3, h4⟩

/-- The rows of 'holding'. -/
def Inner (W : World) (xb : Nat) (us : List Value) : Prop :=
  (∀ (q : Nat) (u : Value), us[q]? = some u → ∃ (k : Nat) (zs : List Int), k ≤ 64 ∧ W.ownsRow xb 91 1 u k (zs.map (Value.int .u64))) ∧ ∀ (q q' b : Nat) (u u' : Value), us[q]? = some u → us[q']? = some u' → u.ownBlock = some b → u'.ownBlock = some b → q = q'
theorem Inner.kpt {L : List Nat} {W W' : World} {xb : Nat} {us : List Value} (h : Inner W xb us) (hk : Kpt L W W') (hn : NotTy W 91 L) : Inner W' xb us :=
  ⟨fun q u hq => by obtain ⟨k, ws, hk1, hr⟩ := h.1 q u hq; exact ⟨k, ws, hk1, row_kpt hr hk hn⟩, h.2⟩

/-- The index with n sets. -/
structure Idx (W : World) (xb n : Nat) (v0 v1 mv v3 : Value) (vs0 vs1 us : List Value) (m1 : Nat) : Prop where
  cells : W.heap[xb]? = some (.cells #[v0, v1, mv, v3] 79 (0, 0))
  sets : W.ownsRow xb 51 1 v0 n vs0
  fewer : W.ownsRow xb 3 1 v1 m1 vs1
  few : m1 ≤ 13
  keys : MapOk W xb mv
  hold : W.ownsRow xb 49 1 v3 us.length us
  holdn : us.length ≤ 12
  inner : Inner W xb us

section
variable {W W' : World} {xb n m1 : Nat} {v0 v1 mv v3 : Value} {vs0 vs1 us : List Value}

theorem Idx.c0 (h : Idx W xb n v0 v1 mv v3 vs0 vs1 us m1) : W.cell? ⟨xb, 0, none⟩ = some v0 := by simp [World.cell?, h.cells]
theorem Idx.c1 (h : Idx W xb n v0 v1 mv v3 vs0 vs1 us m1) : W.cell? ⟨xb, 1, none⟩ = some v1 := by simp [World.cell?, h.cells]
theorem Idx.c2 (h : Idx W xb n v0 v1 mv v3 vs0 vs1 us m1) : W.cell? ⟨xb, 2, none⟩ = some mv := by simp [World.cell?, h.cells]
theorem Idx.c3 (h : Idx W xb n v0 v1 mv v3 vs0 vs1 us m1) : W.cell? ⟨xb, 3, none⟩ = some v3 := by simp [World.cell?, h.cells]
theorem Idx.fz (h : Idx W xb n v0 v1 mv v3 vs0 vs1 us m1) (o : Nat) : W.frozen? ⟨xb, o, none⟩ = false := by simp [World.frozen?, h.cells]
theorem Idx.lt (h : Idx W xb n v0 v1 mv v3 vs0 vs1 us m1) : xb < W.heap.size := (Array.getElem?_eq_some_iff.1 h.cells).1

/-- Nothing of it is written. -/
theorem Idx.kpt {L : List Nat} (h : Idx W xb n v0 v1 mv v3 vs0 vs1 us m1) (hk : Kpt L W W') (hx : xb ∉ L) (h51 : NotTy W 51 L) (h3 : NotTy W 3 L) (hm : ∀ b ∈ L, ∀ es c, W.heap[b]? ≠ some (.map es c)) (h49 : NotTy W 49 L) (h91 : NotTy W 91 L) : Idx W' xb n v0 v1 mv v3 vs0 vs1 us m1 :=
  ⟨(hk.block xb h.lt hx).trans h.cells, row_kpt h.sets hk h51, row_kpt h.fewer hk h3, h.few, h.keys.kpt hk hm, row_kpt h.hold hk h49, h.holdn, h.inner.kpt hk h91⟩
theorem Idx.later (h : Idx W xb n v0 v1 mv v3 vs0 vs1 us m1) (hb : Below W.heap.size W W') : Idx W' xb n v0 v1 mv v3 vs0 vs1 us m1 :=
  h.kpt (Kpt.of_below hb) (by simp) (by simp [NotTy]) (by simp [NotTy]) (by simp) (by simp [NotTy]) (by simp [NotTy])

end
end Go.Proofs.YbulkbvduFmt

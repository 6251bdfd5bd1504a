/-
  Seat b3590aF: LawS3590BFirstWins: what its memory holds between two steps.
-/
import Derived.Test.YbulkbvicFmtN
namespace Go.Proofs.YbulkbvicFmt
open Go.RowKit Go.Extern.Stop Go.Stop Go.Extern Go.Maps

def posCells (PS : List (Int × Int)) : List Value := PS.flatMap fun p => [.int .i64 p.1, .int .i64 p.2]
theorem posCells_snoc (PS : List (Int × Int)) (l c : Int) : posCells (PS ++ [(l, c)]) = posCells PS ++ [.int .i64 l, .int .i64 c] := by simp [posCells]
theorem posCells_at : ∀ (PS : List (Int × Int)) (j : Nat), j < PS.length → (posCells PS)[j * 2]? = some (.int .i64 (PS.getD j (0, 0)).1) ∧ (posCells PS)[j * 2 + 1]? = some (.int .i64 (PS.getD j (0, 0)).2)
  | [], j, h => absurd h (Nat.not_lt_zero j)
  | p :: r, 0, _ => by simp [posCells]
  | p :: r, j + 1, h => by
    have ih := posCells_at r j (by simpa using h)
    have e : posCells (p :: r) = .int .i64 p.1 :: .int .i64 p.2 :: posCells r := by simp [posCells]
    rw [e, show (j + 1) * 2 = j * 2 + 1 + 1 by omega, show j * 2 + 1 + 1 + 1 = (j * 2 + 1) + 1 + 1 by omega]
    simpa using ih
def strs (NS : List ByteArray) : List Value := NS.map Value.string
theorem strs_snoc (NS : List ByteArray) (s : ByteArray) : strs (NS ++ [s]) = strs NS ++ [.string s] := by simp [strs]

/-- Between two steps. -/
structure Mem (B lb rb mb : Nat) (NS : List ByteArray) (PS : List (Int × Int)) (p5 : Option Addr) (c5 : Nat) (p6 : Option Addr) (c6 : Nat) (fp : Option Addr) (fc m n : Nat) (D : DataW Unit) (W : World) : Prop where
  tab : W.heap[lb]? = some (.cells #[.string ⟨#[102]⟩, .int .i64 (-9223372036854775808), .int .i64 0] 32 (0, 0))
  res : ∃ cs : List Value, W.heap[rb]? = some (.cells cs.toArray 42 (0, 0)) ∧ cs[0]? = some (.slice (some ⟨lb, 0, none⟩) 1 1) ∧ cs[1]? = some (.slice fp m fc)
  fnd : ∃ xs, W.ownsRow B 51 1 (.slice fp m fc) m xs
  nms : W.ownsRow B 9 1 (.slice p5 NS.length c5) NS.length (strs NS)
  fst : W.ownsRow B 49 2 (.slice p6 PS.length c6) PS.length (posCells PS)
  map : W.ownsMap Ybaf.prog 9 posElem mb n D
  base : B ≤ lb ∧ B ≤ rb ∧ B ≤ mb

/-- Of which type is a row that a value owns. -/
theorem own_block {W : World} {B : Nat} {e : TypeId} {size : Nat} {v : Value} {n k : Nat} {xs : List Value} (h : W.ownsRow B e size v n xs) (hk : v.ownBlock = some k) : B ≤ k ∧ ∃ cur, W.heap[k]? = some (.cells cur e (0, 0)) := by
  rcases h.2 with ⟨rfl, _⟩ | ⟨g, cap, cur, rfl, hb, hg, _⟩
  · simp [Value.ownBlock] at hk
  · simp only [Value.ownBlock, Option.some.injEq] at hk
    subst hk
    exact ⟨hb, cur, hg⟩

theorem own_kept {L : List Nat} {W W' : World} {B : Nat} {e : TypeId} {size : Nat} {v : Value} {n : Nat} {xs : List Value} (hk : Kept L W W') (h : W.ownsRow B e size v n xs) (hL : ∀ k, v.ownBlock = some k → k ∉ L) : W'.ownsRow B e size v n xs := by
  refine ⟨h.1, ?_⟩
  rcases h.2 with h2 | ⟨g, cap, cur, h1, h2, h3, h4⟩
  · exact .inl h2
  · subst h1
    exact .inr ⟨g, cap, cur, rfl, h2, (hk.block g (Array.getElem?_eq_some_iff.1 h3).1 (hL g rfl)).trans h3, h4⟩
theorem map_kept {L : List Nat} {W W' : World} {b n : Nat} {D : DataW Unit} (hk : Kept L W W') (h : W.ownsMap Ybaf.prog 9 posElem b n D) (hL : b ∉ L) : W'.ownsMap Ybaf.prog 9 posElem b n D := by
  obtain ⟨es, clock, h1, h2⟩ := h
  exact ⟨es, clock, (hk.block b (Array.getElem?_eq_some_iff.1 h1).1 hL).trans h1, h2⟩
theorem kept_of_below {W W' : World} (h : Below W.heap.size W W') : Kept [] W W' := ⟨h.os, h.tape, h.output, h.size, fun k hk _ => h.block k hk⟩
theorem below_kept {B : Nat} {L : List Nat} {w W W' : World} (h : Below B w W) (hk : Kept L W W') (hL : ∀ k ∈ L, B ≤ k) (hB : B ≤ W.heap.size) : Below B w W' :=
  ⟨hk.os.trans h.os, hk.tape.trans h.tape, hk.output.trans h.output, Nat.le_trans h.size hk.size, fun k hlt => (hk.block k (Nat.lt_of_lt_of_le hlt hB) (fun hm => absurd (hL k hm) (by omega))).trans (h.block k hlt)⟩
theorem kept_trans {L L' : List Nat} {a b c : World} (h : Kept L a b) (k : Kept L' b c) : Kept (L ++ L') a c :=
  ⟨k.os.trans h.os, k.tape.trans h.tape, k.output.trans h.output, Nat.le_trans h.size k.size, fun i hi hn => (k.block i (Nat.lt_of_lt_of_le hi h.size) (fun hm => hn (List.mem_append_right _ hm))).trans (h.block i hi (fun hm => hn (List.mem_append_left _ hm)))⟩
theorem kept_grown {W W' : World} {row : Option Nat} (h : W.grownBy W' row) : Kept row.toList W W' :=
  ⟨h.os, h.tape, h.output, h.size, fun k hk hn => h.block k hk (fun e => hn (by rw [← e]; simp))⟩

section
variable {B lb rb mb : Nat} {NS : List ByteArray} {PS : List (Int × Int)} {p5 : Option Addr} {c5 : Nat} {p6 : Option Addr} {c6 : Nat} {fp : Option Addr} {fc m n : Nat} {D : DataW Unit} {W W' : World}

/-- The blocks of a list L are none of the memory's. -/
theorem Mem.kept (h : Mem B lb rb mb NS PS p5 c5 p6 c6 fp fc m n D W) {L : List Nat} (hk : Kept L W W') (h1 : lb ∉ L) (h2 : rb ∉ L) (h3 : mb ∉ L) (h4 : ∀ k, Value.ownBlock (.slice fp m fc) = some k → k ∉ L)
    (h5 : ∀ k, Value.ownBlock (.slice p5 NS.length c5) = some k → k ∉ L) (h6 : ∀ k, Value.ownBlock (.slice p6 PS.length c6) = some k → k ∉ L) : Mem B lb rb mb NS PS p5 c5 p6 c6 fp fc m n D W' := by
  obtain ⟨cs, r1, r2, r3⟩ := h.res
  obtain ⟨xs, hx⟩ := h.fnd
  exact ⟨(hk.block lb (Array.getElem?_eq_some_iff.1 h.tab).1 h1).trans h.tab, ⟨cs, (hk.block rb (Array.getElem?_eq_some_iff.1 r1).1 h2).trans r1, r2, r3⟩, ⟨xs, own_kept hk hx h4⟩, own_kept hk h.nms h5, own_kept hk h.fst h6, map_kept hk h.map h3, h.base⟩
theorem Mem.below (h : Mem B lb rb mb NS PS p5 c5 p6 c6 fp fc m n D W) (hb : Below W.heap.size W W') : Mem B lb rb mb NS PS p5 c5 p6 c6 fp fc m n D W' :=
  h.kept (kept_of_below hb) (by simp) (by simp) (by simp) (by simp) (by simp) (by simp)

/-- Behind declareOnce at a new name. -/
theorem Mem.declared (h : Mem B lb rb mb NS PS p5 c5 p6 c6 fp fc m n D W) {D' : DataW Unit} (hk : Kept [mb] W W') (ho : W'.ownsMap Ybaf.prog 9 posElem mb (n + 1) D') : Mem B lb rb mb NS PS p5 c5 p6 c6 fp fc m (n + 1) D' W' := by
  obtain ⟨es, clock, hm, _⟩ := h.map
  obtain ⟨cs, r1, r2, r3⟩ := h.res
  obtain ⟨xs, hx⟩ := h.fnd
  have nm : ∀ k, (∃ (cur : Array Value) (e : TypeId), W.heap[k]? = some (.cells cur e (0, 0))) → k ∉ [mb] := by
    rintro k ⟨cur, e, hc⟩ hmem
    simp only [List.mem_singleton] at hmem
    subst hmem
    rw [hm] at hc
    simp at hc
  have on : ∀ {e size : Nat} {v : Value} {nn : Nat} {ys : List Value}, W.ownsRow B e size v nn ys → ∀ k, v.ownBlock = some k → k ∉ [mb] := fun ho k hkk => by
    obtain ⟨_, cur, hc⟩ := own_block ho hkk
    exact nm k ⟨cur, _, hc⟩
  exact ⟨(hk.block lb (Array.getElem?_eq_some_iff.1 h.tab).1 (nm lb ⟨_, _, h.tab⟩)).trans h.tab, ⟨cs, (hk.block rb (Array.getElem?_eq_some_iff.1 r1).1 (nm rb ⟨_, _, r1⟩)).trans r1, r2, r3⟩,
    ⟨xs, own_kept hk hx (on hx)⟩, own_kept hk h.nms (on h.nms), own_kept hk h.fst (on h.fst), ho, h.base⟩

/-- Behind an append to the names. -/
theorem Mem.named (h : Mem B lb rb mb NS PS p5 c5 p6 c6 fp fc m n D W) {s : ByteArray} {g cap : Nat} (hg : W.grownBy W' (Value.ownBlock (.slice p5 NS.length c5)))
    (ho : W'.ownsRow B 9 1 (.slice (some ⟨g, 0, none⟩) (NS.length + 1) cap) (NS.length + 1) (strs NS ++ [.string s])) : Mem B lb rb mb (NS ++ [s]) PS (some ⟨g, 0, none⟩) cap p6 c6 fp fc m n D W' := by
  have hk := kept_grown hg
  obtain ⟨cs, r1, r2, r3⟩ := h.res
  obtain ⟨xs, hx⟩ := h.fnd
  have nm : ∀ k (o : Obj), W.heap[k]? = some o → (∀ cur, o ≠ .cells cur 9 (0, 0)) → k ∉ (Value.ownBlock (.slice p5 NS.length c5)).toList := by
    intro k o hc hne hmem
    obtain ⟨_, cur, hcur⟩ := own_block h.nms (Option.mem_toList.1 hmem)
    rw [hc] at hcur
    exact hne cur (Option.some.inj hcur)
  obtain ⟨es, clock, hm, hm2⟩ := h.map
  have on : ∀ {e size : Nat} {v : Value} {nn : Nat} {ys : List Value}, e ≠ 9 → W.ownsRow B e size v nn ys → ∀ k, v.ownBlock = some k → k ∉ (Value.ownBlock (.slice p5 NS.length c5)).toList := fun he ho k hkk => by
    obtain ⟨_, cur, hc⟩ := own_block ho hkk
    exact nm k _ hc (fun cur' hh => he (by simp at hh; exact hh.2))
  refine ⟨(hk.block lb (Array.getElem?_eq_some_iff.1 h.tab).1 (nm lb _ h.tab (by simp))).trans h.tab, ⟨cs, (hk.block rb (Array.getElem?_eq_some_iff.1 r1).1 (nm rb _ r1 (by simp))).trans r1, r2, r3⟩,
    ⟨xs, own_kept hk hx (on (by decide) hx)⟩, ?_, own_kept hk h.fst (on (by decide) h.fst), map_kept hk h.map (nm mb _ hm (by simp)), h.base⟩
  rw [strs_snoc, List.length_append]
  exact ho
/-- Behind an append to the positions. -/
theorem Mem.placed (h : Mem B lb rb mb NS PS p5 c5 p6 c6 fp fc m n D W) {l c : Int} {g cap : Nat} (hg : W.grownBy W' (Value.ownBlock (.slice p6 PS.length c6)))
    (ho : W'.ownsRow B 49 2 (.slice (some ⟨g, 0, none⟩) (PS.length + 1) cap) (PS.length + 1) (posCells PS ++ [.int .i64 l, .int .i64 c])) : Mem B lb rb mb NS (PS ++ [(l, c)]) p5 c5 (some ⟨g, 0, none⟩) cap fp fc m n D W' := by
  have hk := kept_grown hg
  obtain ⟨cs, r1, r2, r3⟩ := h.res
  obtain ⟨xs, hx⟩ := h.fnd
  have nm : ∀ k (o : Obj), W.heap[k]? = some o → (∀ cur, o ≠ .cells cur 49 (0, 0)) → k ∉ (Value.ownBlock (.slice p6 PS.length c6)).toList := by
    intro k o hc hne hmem
    obtain ⟨_, cur, hcur⟩ := own_block h.fst (Option.mem_toList.1 hmem)
    rw [hc] at hcur
    exact hne cur (Option.some.inj hcur)
  obtain ⟨es, clock, hm, hm2⟩ := h.map
  have on : ∀ {e size : Nat} {v : Value} {nn : Nat} {ys : List Value}, e ≠ 49 → W.ownsRow B e size v nn ys → ∀ k, v.ownBlock = some k → k ∉ (Value.ownBlock (.slice p6 PS.length c6)).toList := fun he ho k hkk => by
    obtain ⟨_, cur, hc⟩ := own_block ho hkk
    exact nm k _ hc (fun cur' hh => he (by simp at hh; exact hh.2))
  refine ⟨(hk.block lb (Array.getElem?_eq_some_iff.1 h.tab).1 (nm lb _ h.tab (by simp))).trans h.tab, ⟨cs, (hk.block rb (Array.getElem?_eq_some_iff.1 r1).1 (nm rb _ r1 (by simp))).trans r1, r2, r3⟩,
    ⟨xs, own_kept hk hx (on (by decide) hx)⟩, own_kept hk h.nms (on (by decide) h.nms), ?_, map_kept hk h.map (nm mb _ hm (by simp)), h.base⟩
  rw [posCells_snoc, List.length_append]
  exact ho
end

end Go.Proofs.YbulkbvicFmt

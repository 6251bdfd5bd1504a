/-
  Seat b3590aF: LawS3590BFirstWins: what the names, the positions and the map say of each other.
-/
import Derived.Test.YbulkbvicFmtO
namespace Go.Proofs.YbulkbvicFmt
open Go.RowKit Go.Extern.Stop Go.Stop Go.Extern Go.Maps
open Go.WideMaps (keyOf_string_mk)

theorem own_cell {W : World} {B : Nat} {e : TypeId} {g n cap : Nat} {xs : List Value} {size : Nat} (h : W.ownsRow B e size (.slice (some ⟨g, 0, none⟩) n cap) n xs) {j : Nat} {u : Value} (hj : xs[j]? = some u) : W.cell? ⟨g, j, none⟩ = some u := by
  rcases h.2 with ⟨h1, _⟩ | ⟨g', cap', cur, h1, _, hg, _, _, hsz, htake⟩
  · cases h1
  · simp only [Value.slice.injEq, Option.some.injEq, Addr.mk.injEq] at h1
    obtain ⟨⟨rfl, _⟩, _, rfl⟩ := h1
    have hlt : j < n * size := by
      have := (List.getElem?_eq_some_iff.1 hj).1
      rw [h.1] at this; exact this
    rw [← htake, List.getElem?_take_of_lt hlt] at hj
    simp only [World.cell?, hg]
    simpa using hj
theorem own_form {W : World} {B : Nat} {e : TypeId} {n cap : Nat} {p : Option Addr} {xs : List Value} {size : Nat} (h : W.ownsRow B e size (.slice p n cap) n xs) (hn : 0 < n) : ∃ g, p = some ⟨g, 0, none⟩ := by
  obtain ⟨g, cap', hv, _⟩ := h.form hn
  simp only [Value.slice.injEq] at hv
  exact ⟨g, hv.1⟩

section
variable {B lb rb mb : Nat} {NS : List ByteArray} {PS : List (Int × Int)} {p5 : Option Addr} {c5 : Nat} {p6 : Option Addr} {c6 : Nat} {fp : Option Addr} {fc m n : Nat} {D : DataW Unit} {W W' : World}

/-- Behind errorf: one error more, and the last one is this. -/
theorem Mem.erred (h : Mem B lb rb mb NS PS p5 c5 p6 c6 fp fc m n D W) {l c : Int} {xs cs : List Value} (hc0 : cs[0]? = some (.slice (some ⟨lb, 0, none⟩) 1 1)) (hc1 : cs[1]? = some (.slice fp m fc)) (r1 : W.heap[rb]? = some (.cells cs.toArray 42 (0, 0))) (hx : W.ownsRow B 51 1 (.slice fp m fc) m xs)
    (he : ErrPost rb B m l c (.slice fp m fc) xs cs W W') :
    ∃ g cap eb s, Mem B lb rb mb NS PS p5 c5 p6 c6 (some ⟨g, 0, none⟩) cap (m + 1) n D W' ∧ W'.cell? ⟨g, m, none⟩ = some (.pointer (some ⟨eb, 0, none⟩)) ∧ W'.heap[eb]? = some (.cells #[.string ⟨#[]⟩, .int .i64 l, .int .i64 c, .string s, .bool false] 53 (0, 0)) ∧ W.heap.size ≤ eb := by
  obtain ⟨g, cap, eb, s, e1, e2, e3, e4, hk⟩ := he
  obtain ⟨es, clock, hm, _⟩ := h.map
  have nm : ∀ k (o : Obj), W.heap[k]? = some o → (∀ cur, o ≠ .cells cur 42 (0, 0)) → (∀ cur, o ≠ .cells cur 51 (0, 0)) → k ∉ rb :: (Value.ownBlock (.slice fp m fc)).toList := by
    intro k o hc hne hne2 hmem
    simp only [List.mem_cons] at hmem
    rcases hmem with rfl | hmem
    · rw [r1] at hc; exact hne _ (Option.some.inj hc).symm
    · obtain ⟨_, cur, hcur⟩ := own_block hx (Option.mem_toList.1 hmem)
      rw [hc] at hcur
      exact hne2 cur (Option.some.inj hcur)
  have on : ∀ {e size : Nat} {v : Value} {nn : Nat} {ys : List Value}, e ≠ 42 → e ≠ 51 → W.ownsRow B e size v nn ys → ∀ k, v.ownBlock = some k → k ∉ rb :: (Value.ownBlock (.slice fp m fc)).toList := fun h1 h2 ho k hkk => by
    obtain ⟨_, cur, hc⟩ := own_block ho hkk
    exact nm k _ hc (fun cur' hh => h1 (by simp at hh; exact hh.2)) (fun cur' hh => h2 (by simp at hh; exact hh.2))
  refine ⟨g, cap, eb, s, ⟨(hk.block lb (Array.getElem?_eq_some_iff.1 h.tab).1 (nm lb _ h.tab (by simp) (by simp))).trans h.tab, ⟨_, e1, ?_, ?_⟩, ⟨_, e2⟩, own_kept hk h.nms (on (by decide) (by decide) h.nms), own_kept hk h.fst (on (by decide) (by decide) h.fst),
    map_kept hk h.map (nm mb _ hm (by simp) (by simp)), h.base⟩, own_cell e2 ?_, e3, e4⟩
  · rw [List.getElem?_set_ne (by decide)]; exact hc0
  · rw [List.getElem?_set_self (List.getElem?_eq_some_iff.1 hc1).1]
  · have hl : xs.length = m := by have := hx.1; simpa using this
    rw [List.getElem?_append_right (by omega), hl]; simp
end

/-- The names, their first positions, the map. -/
structure Dat (NS : List ByteArray) (PS : List (Int × Int)) (D : DataW Unit) : Prop where
  len : PS.length = NS.length
  size : Maps.size D = NS.length
  at_ : ∀ j, j < NS.length → D.atKey (.string (NS.getD j ⟨#[]⟩).data.toList) (posD 0 0) = posD (PS.getD j (0, 0)).1 (PS.getD j (0, 0)).2
  has : ∀ j, j < NS.length → Maps.has D (.string (NS.getD j ⟨#[]⟩).data.toList) = true
  no : ∀ s : ByteArray, s ∉ NS → Maps.has D (.string s.data.toList) = false ∧ D.atKey (.string s.data.toList) (posD 0 0) = posD 0 0
  low : ∀ j, j < NS.length → -9223372036854775808 ≤ (PS.getD j (0, 0)).1
  sz : ∀ j, j < NS.length → (NS.getD j ⟨#[]⟩).size ≤ maxLen

theorem Dat.start : Dat [] [] (.map []) :=
  ⟨rfl, rfl, fun j h => absurd h (Nat.not_lt_zero j), fun j h => absurd h (Nat.not_lt_zero j), fun _ _ => ⟨rfl, rfl⟩, fun j h => absurd h (Nat.not_lt_zero j), fun j h => absurd h (Nat.not_lt_zero j)⟩

theorem key_ne {s t : ByteArray} (h : s ≠ t) : Lit.string s.data.toList ≠ Lit.string t.data.toList := by
  intro e
  simp only [Lit.string.injEq] at e
  apply h
  cases s; cases t
  simp only [ByteArray.mk.injEq]
  exact Array.toList_inj.1 e

theorem getD_snoc_lt {α : Type} {A : List α} {x d : α} {j : Nat} (h : j < A.length) : (A ++ [x]).getD j d = A.getD j d := by
  simp [List.getD_eq_getElem?_getD, List.getElem?_append_left h]
theorem getD_snoc_eq {α : Type} {A : List α} {x d : α} : (A ++ [x]).getD A.length d = x := by
  simp [List.getD_eq_getElem?_getD]
theorem getD_mem {α : Type} {A : List α} {d : α} {j : Nat} (h : j < A.length) : A.getD j d ∈ A := by
  rw [List.getD_eq_getElem?_getD, List.getElem?_eq_getElem h]; exact List.getElem_mem h

theorem Dat.next {NS : List ByteArray} {PS : List (Int × Int)} {D : DataW Unit} {W : World} {mb n : Nat} (h : Dat NS PS D) (ho : W.ownsMap Ybaf.prog 9 posElem mb n D) {s : ByteArray} (hs : s ∉ NS) (hsz : s.size ≤ maxLen) {l c : Int} (hl : -9223372036854775808 ≤ l) :
    Dat (NS ++ [s]) (PS ++ [(l, c)]) (D.put (.string s.data.toList) (posD l c)) := by
  have hkey := law9.key (keyOf_string_mk (P := Ybaf.prog) Ybaf.underlying9 hsz)
  have ne : ∀ j, j < NS.length → NS.getD j ⟨#[]⟩ ≠ s := fun j hj e => hs (by rw [← e]; exact getD_mem hj)
  refine ⟨by simp [h.len], ?_, ?_, ?_, ?_, ?_, ?_⟩
  · rw [size_put (ho.tidy law9), (h.no s hs).1]; simp [h.size]
  · intro j hj
    by_cases e : j < NS.length
    · rw [getD_snoc_lt e, getD_snoc_lt (by rw [h.len]; exact e), atKey_put_other (key_ne (ne j e))]; exact h.at_ j e
    · have : j = NS.length := by simp at hj; omega
      subst this
      rw [getD_snoc_eq, ← h.len, getD_snoc_eq, atKey_put_same ho.isMap hkey]
  · intro j hj
    by_cases e : j < NS.length
    · rw [getD_snoc_lt e, has_put_other (key_ne (ne j e))]; exact h.has j e
    · have : j = NS.length := by simp at hj; omega
      subst this
      rw [getD_snoc_eq, has_put_same ho.isMap hkey]
  · intro t ht
    simp only [List.mem_append, List.mem_singleton, not_or] at ht
    rw [has_put_other (key_ne ht.2), atKey_put_other (key_ne ht.2)]
    exact h.no t ht.1
  · intro j hj
    by_cases e : j < NS.length
    · rw [getD_snoc_lt (by rw [h.len]; exact e)]; exact h.low j e
    · have : j = NS.length := by simp at hj; omega
      subst this
      rw [← h.len, getD_snoc_eq]; exact hl
  · intro j hj
    by_cases e : j < NS.length
    · rw [getD_snoc_lt e]; exact h.sz j e
    · have : j = NS.length := by simp at hj; omega
      subst this
      rw [getD_snoc_eq]; exact hsz

end Go.Proofs.YbulkbvicFmt

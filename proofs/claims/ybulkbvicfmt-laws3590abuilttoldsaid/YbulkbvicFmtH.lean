/-
  Seat b3590aF: the plain law of LawS3590ABuilt: a text that is put together out of a sign, digits, a fraction and an exponent is read back.
-/
import Derived.Test.YbulkbvicFmtPlain
namespace Go.Proofs.YbulkbvicFmt

theorem dEnd_run {f : Nat → Int} {n e : Nat} (hen : e ≤ n) (hs : e < n → dig (f e) = false) :
    ∀ (m i : Nat), e - i = m → i ≤ e → (∀ k, i ≤ k → k < e → dig (f k) = true) → dEnd f n i = e
  | 0, i, hm, hie, _ => by
    have : i = e := by omega
    subst this
    by_cases h : i < n
    · exact dEnd_no (hs h)
    · exact dEnd_stop (by omega)
  | m + 1, i, hm, hie, hd => by
    rw [dEnd_yes (by omega) (hd i (Nat.le_refl _) (by omega))]
    exact dEnd_run hen hs m (i + 1) (by omega) (by omega) (fun k hk hk2 => hd k (by omega) hk2)

theorem dig_ne {x : Int} (h : dig x = true) : x ≠ 43 ∧ x ≠ 45 ∧ x ≠ 46 ∧ x ≠ 101 ∧ x ≠ 69 := by
  simp [dig] at h; omega

theorem getD_left {A B : List Int} {k : Nat} (h : k < A.length) : (A ++ B).getD k 0 = A.getD k 0 := by
  simp [List.getD_eq_getElem?_getD, List.getElem?_append_left h]
theorem getD_right {A B : List Int} (k : Nat) : (A ++ B).getD (A.length + k) 0 = B.getD k 0 := by
  simp [List.getD_eq_getElem?_getD, List.getElem?_append_right]
theorem dig_at {A : List Int} (h : ∀ x ∈ A, dig x = true) {k : Nat} (hk : k < A.length) : dig (A.getD k 0) = true := by
  apply h
  rw [List.getD_eq_getElem?_getD, List.getElem?_eq_getElem hk]
  exact List.getElem_mem hk

/-- The parts' own facts, by the place. -/
theorem built_whole (f : Nat → Int) (n s i e fe : Nat) (hs : plus f n = s) (hi : sgn f n s = i) (hie : i < e) (hef : e ≤ fe) (hfn : fe ≤ n)
    (hd : ∀ k, i ≤ k → k < e → dig (f k) = true) (hz : e = i + 1 ∨ f i ≠ 48)
    (hfr : fe = e ∨ (e + 1 < fe ∧ f e = 46 ∧ ∀ k, e + 1 ≤ k → k < fe → dig (f k) = true))
    (hex : fe = n ∨ ∃ x, fe < x ∧ x < n ∧ (f fe = 101 ∨ f fe = 69) ∧ x = xsgn f n (fe + 1) ∧ ∀ k, x ≤ k → k < n → dig (f k) = true) :
    whole f n = some (e, fe, n) := by
  have hfe : fe < n → f fe = 101 ∨ f fe = 69 := fun h => by
    rcases hex with h' | ⟨x, _, _, h', _⟩
    · omega
    · exact h'
  have nd : ∀ x : Int, (x = 101 ∨ x = 69) → dig x = false := by
    intro x hx; rcases hx with rfl | rfl <;> rfl
  have hE : dEnd f n i = e := by
    refine dEnd_run (by omega) (fun h => ?_) _ i rfl (by omega) hd
    rcases hfr with h' | ⟨_, h', _⟩
    · subst h'; exact nd _ (hfe h)
    · rw [h']; rfl
  have hF : frac f n e = some fe := by
    rcases hfr with h' | ⟨h1, h', hd'⟩
    · subst h'
      refine frac_not fun h => ?_
      have := hfe h.1
      omega
    · exact frac_dot (by omega) h' (dEnd_run (by omega) (fun h => nd _ (hfe h)) _ (e + 1) rfl (by omega) hd') (by omega)
  have hX : expo f n fe = some n := by
    rcases hex with h' | ⟨x, h1, h2, h3, h4, h5⟩
    · subst h'; exact expo_not (by omega)
    · exact expo_yes ⟨by omega, h3⟩ h4 (dEnd_run (Nat.le_refl _) (fun h => absurd h (by omega)) _ x rfl (by omega) h5) (by omega)
  have hN : number f n (plus f n) = some (e, fe, n) := by
    rw [hs]
    exact number_some hi.symm hE (by omega) (fun h => by rcases hz with h' | h' <;> omega) hF hX
  unfold whole
  rw [hN]
  simp

theorem built_law (S I R E : List Int) (s : Nat)
    (hS : (S = [] ∧ s = 0) ∨ (S = [43] ∧ s = 1) ∨ (S = [45] ∧ s = 0))
    (hI : 0 < I.length) (hId : ∀ x ∈ I, dig x = true) (hI0 : I.length = 1 ∨ I.getD 0 0 ≠ 48)
    (hR : R = [] ∨ ∃ D, R = 46 :: D ∧ 0 < D.length ∧ ∀ x ∈ D, dig x = true)
    (hE : E = [] ∨ ∃ c X D, E = c :: (X ++ D) ∧ (c = 101 ∨ c = 69) ∧ (X = [] ∨ X = [43] ∨ X = [45]) ∧ 0 < D.length ∧ ∀ x ∈ D, dig x = true) :
    plus (fun k => (S ++ (I ++ (R ++ E))).getD k 0) (S ++ (I ++ (R ++ E))).length = s ∧
    whole (fun k => (S ++ (I ++ (R ++ E))).getD k 0) (S ++ (I ++ (R ++ E))).length = some (S.length + I.length, S.length + I.length + R.length, (S ++ (I ++ (R ++ E))).length) := by
  obtain ⟨f, hf⟩ : ∃ f : Nat → Int, f = fun k => (S ++ (I ++ (R ++ E))).getD k 0 := ⟨_, rfl⟩
  obtain ⟨n, hn⟩ : ∃ n, n = (S ++ (I ++ (R ++ E))).length := ⟨_, rfl⟩
  rw [← hf, ← hn]
  have hlen : n = S.length + I.length + R.length + E.length := by rw [hn]; simp; omega
  have fS : ∀ k, k < S.length → f k = S.getD k 0 := fun k hk => by rw [hf]; exact getD_left hk
  have fI : ∀ k, k < I.length → f (S.length + k) = I.getD k 0 := fun k hk => by rw [hf]; show List.getD _ _ _ = _; rw [getD_right, getD_left hk]
  have fR : ∀ k, k < R.length → f (S.length + I.length + k) = R.getD k 0 := fun k hk => by
    rw [hf]; show List.getD _ _ _ = _; rw [Nat.add_assoc, getD_right, getD_right, getD_left hk]
  have fE : ∀ k, f (S.length + I.length + R.length + k) = E.getD k 0 := fun k => by
    rw [hf]; show List.getD _ _ _ = _; rw [show S.length + I.length + R.length + k = S.length + (I.length + (R.length + k)) by omega, getD_right, getD_right, getD_right]
  have d0 : dig (f S.length) = true := by have := fI 0 hI; rw [Nat.add_zero] at this; rw [this]; exact dig_at hId hI
  have n0 := dig_ne d0
  clear hf hn
  have hp : plus f n = s := by
    unfold plus
    rcases hS with ⟨rfl, rfl⟩ | ⟨rfl, rfl⟩ | ⟨rfl, rfl⟩
    · simp only [List.length_nil] at n0
      rw [if_neg (fun h => n0.1 h.2.1)]
    · have h0 := fS 0 (by simp)
      simp only [List.length_singleton] at n0 hlen
      rw [if_pos ⟨by omega, by rw [h0]; rfl, n0.2.1⟩]
    · have h0 := fS 0 (by simp)
      rw [if_neg (fun h => by rw [h0] at h; simp at h)]
  have hg : sgn f n s = S.length := by
    unfold sgn
    rcases hS with ⟨rfl, rfl⟩ | ⟨rfl, rfl⟩ | ⟨rfl, rfl⟩
    · simp only [List.length_nil] at n0
      rw [if_neg (fun h => n0.2.1 h.2)]; rfl
    · simp only [List.length_singleton] at n0
      rw [if_neg (fun h => n0.2.1 h.2)]; rfl
    · have h0 := fS 0 (by simp)
      simp only [List.length_singleton] at hlen
      rw [if_pos ⟨by omega, by rw [h0]; rfl⟩]; rfl
  refine ⟨hp, built_whole f n s S.length (S.length + I.length) (S.length + I.length + R.length) hp hg (by omega) (by omega) (by omega) ?_ ?_ ?_ ?_⟩
  · intro k h1 h2
    have := fI (k - S.length) (by omega)
    rw [show S.length + (k - S.length) = k by omega] at this
    rw [this]; exact dig_at hId (by omega)
  · rcases hI0 with h | h
    · left; omega
    · right; have := fI 0 hI; rw [Nat.add_zero] at this; rw [this]; exact h
  · rcases hR with rfl | ⟨D, rfl, hD, hDd⟩
    · left; simp
    · right
      simp only [List.length_cons] at fR ⊢
      refine ⟨by omega, ?_, ?_⟩
      · have := fR 0 (by omega); rw [Nat.add_zero] at this; rw [this]; rfl
      · intro k h1 h2
        have := fR (k - (S.length + I.length)) (by omega)
        rw [show S.length + I.length + (k - (S.length + I.length)) = k by omega] at this
        rw [this, show k - (S.length + I.length) = (k - (S.length + I.length) - 1) + 1 by omega, List.getD_cons_succ]
        exact dig_at hDd (by omega)
  · rcases hE with rfl | ⟨c, X, D, rfl, hc, hX, hD, hDd⟩
    · left; simp at hlen; omega
    · right
      simp only [List.length_cons, List.length_append] at hlen
      have e0 := fE 0
      rw [Nat.add_zero] at e0
      have eD : ∀ k, k < D.length → f (S.length + I.length + R.length + (1 + X.length + k)) = D.getD k 0 := fun k _ => by
        rw [fE, show 1 + X.length + k = (X.length + k) + 1 by omega, List.getD_cons_succ, getD_right]
      have dD := dig_ne (dig_at hDd hD)
      refine ⟨S.length + I.length + R.length + 1 + X.length, by omega, by omega, ?_, ?_, ?_⟩
      · rw [e0]; exact hc
      · have eX := fE 1
        unfold xsgn
        rcases hX with rfl | rfl | rfl
        · have := eD 0 hD
          simp only [List.length_nil, Nat.add_zero] at this
          rw [if_neg (fun h => by rw [this] at h; omega)]; simp
        · rw [if_pos ⟨by simp only [List.length_singleton] at hlen; omega, .inl (by rw [eX]; rfl)⟩]; simp
        · rw [if_pos ⟨by simp only [List.length_singleton] at hlen; omega, .inr (by rw [eX]; rfl)⟩]; simp
      · intro k h1 h2
        have := eD (k - (S.length + I.length + R.length + 1 + X.length)) (by omega)
        rw [show S.length + I.length + R.length + (1 + X.length + (k - (S.length + I.length + R.length + 1 + X.length))) = k by omega] at this
        rw [this]; exact dig_at hDd (by omega)

end Go.Proofs.YbulkbvicFmt

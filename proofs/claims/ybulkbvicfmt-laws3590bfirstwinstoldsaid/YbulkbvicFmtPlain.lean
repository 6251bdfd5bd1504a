/-
  Seat b3590aF: the plain part: what textNumber and the law's model compute, on a text of n bytes f 0 .. f (n-1).
-/
namespace Go.Proofs.YbulkbvicFmt

/-- A byte that is a digit. -/
def dig (c : Int) : Bool := decide (48 ≤ c) && decide (c ≤ 57)

def dGo (f : Nat → Int) : Nat → Nat → Nat
  | 0, i => i
  | k + 1, i => if dig (f i) then dGo f k (i + 1) else i
/-- Just past the run of digits that begins at i. -/
def dEnd (f : Nat → Int) (n i : Nat) : Nat := dGo f (n - i) i

theorem dEnd_stop {f : Nat → Int} {n i : Nat} (h : n ≤ i) : dEnd f n i = i := by
  have e : n - i = 0 := by omega
  simp [dEnd, e, dGo]
theorem dEnd_no {f : Nat → Int} {n i : Nat} (h : dig (f i) = false) : dEnd f n i = i := by
  unfold dEnd
  cases n - i <;> simp [dGo, h]
theorem dEnd_yes {f : Nat → Int} {n i : Nat} (hi : i < n) (h : dig (f i) = true) : dEnd f n i = dEnd f n (i + 1) := by
  unfold dEnd
  have e : n - i = (n - (i + 1)) + 1 := by omega
  rw [e]
  simp [dGo, h]
theorem dGo_le (f : Nat → Int) : ∀ k i, i ≤ dGo f k i ∧ dGo f k i ≤ i + k
  | 0, i => by simp [dGo]
  | k + 1, i => by
    unfold dGo
    split
    · have := dGo_le f k (i + 1); omega
    · omega
theorem dEnd_ge (f : Nat → Int) (n i : Nat) : i ≤ dEnd f n i := (dGo_le f _ i).1
theorem dEnd_le {f : Nat → Int} {n i : Nat} (h : i ≤ n) : dEnd f n i ≤ n := by
  have := (dGo_le f (n - i) i).2
  unfold dEnd
  omega

def sgn (f : Nat → Int) (n i : Nat) : Nat := if i < n ∧ f i = 45 then i + 1 else i
def frac (f : Nat → Int) (n e : Nat) : Option Nat := if e < n ∧ f e = 46 then (if dEnd f n (e + 1) = e + 1 then none else some (dEnd f n (e + 1))) else some e
def xsgn (f : Nat → Int) (n x : Nat) : Nat := if x < n ∧ (f x = 43 ∨ f x = 45) then x + 1 else x
def expo (f : Nat → Int) (n e : Nat) : Option Nat := if e < n ∧ (f e = 101 ∨ f e = 69) then (if dEnd f n (xsgn f n (e + 1)) = xsgn f n (e + 1) then none else some (dEnd f n (xsgn f n (e + 1)))) else some e

/-- The number that begins at i: where its integer digits end, where its fraction ends, where it ends. -/
def number (f : Nat → Int) (n i : Nat) : Option (Nat × Nat × Nat) :=
  if dEnd f n (sgn f n i) = sgn f n i then none
  else if 1 < dEnd f n (sgn f n i) - sgn f n i ∧ f (sgn f n i) = 48 then none
  else match frac f n (dEnd f n (sgn f n i)) with
    | none => none
    | some fe => match expo f n fe with
      | none => none
      | some z => some (dEnd f n (sgn f n i), fe, z)

def plus (f : Nat → Int) (n : Nat) : Nat := if 1 < n ∧ f 0 = 43 ∧ f 1 ≠ 45 then 1 else 0

/-- What textNumber and the model answer. -/
def whole (f : Nat → Int) (n : Nat) : Option (Nat × Nat × Nat) :=
  match number f n (plus f n) with
  | none => none
  | some (a, b, z) => if z = n then some (a, b, z) else none

theorem sgn_ge (f : Nat → Int) (n i : Nat) : i ≤ sgn f n i := by unfold sgn; split <;> omega
theorem sgn_le {f : Nat → Int} {n i : Nat} (h : i ≤ n) : sgn f n i ≤ n := by unfold sgn; split <;> omega
theorem xsgn_ge (f : Nat → Int) (n i : Nat) : i ≤ xsgn f n i := by unfold xsgn; split <;> omega
theorem xsgn_le {f : Nat → Int} {n i : Nat} (h : i ≤ n) : xsgn f n i ≤ n := by unfold xsgn; split <;> omega
theorem plus_le {f : Nat → Int} {n : Nat} : plus f n ≤ n := by unfold plus; split <;> omega

theorem number_of {f : Nat → Int} {n i0 i e : Nat} (hI : i = sgn f n i0) (hE : dEnd f n i = e) (h1 : ¬ e = i) (h2 : ¬ (1 < e - i ∧ f i = 48)) :
    number f n i0 = match frac f n e with | none => none | some fe => (match expo f n fe with | none => none | some z => some (e, fe, z)) := by
  subst hI
  unfold number
  rw [hE, if_neg h1, if_neg h2]
theorem number_some {f : Nat → Int} {n i0 i e fe z : Nat} (hI : i = sgn f n i0) (hE : dEnd f n i = e) (h1 : ¬ e = i) (h2 : ¬ (1 < e - i ∧ f i = 48)) (hF : frac f n e = some fe) (hX : expo f n fe = some z) : number f n i0 = some (e, fe, z) := by
  rw [number_of hI hE h1 h2, hF]
  simp [hX]
theorem number_nofrac {f : Nat → Int} {n i0 i e : Nat} (hI : i = sgn f n i0) (hE : dEnd f n i = e) (h1 : ¬ e = i) (h2 : ¬ (1 < e - i ∧ f i = 48)) (hF : frac f n e = none) : number f n i0 = none := by
  rw [number_of hI hE h1 h2, hF]
theorem number_noexp {f : Nat → Int} {n i0 i e fe : Nat} (hI : i = sgn f n i0) (hE : dEnd f n i = e) (h1 : ¬ e = i) (h2 : ¬ (1 < e - i ∧ f i = 48)) (hF : frac f n e = some fe) (hX : expo f n fe = none) : number f n i0 = none := by
  rw [number_of hI hE h1 h2, hF]
  simp [hX]
theorem number_zero {f : Nat → Int} {n i0 i e : Nat} (hI : i = sgn f n i0) (hE : dEnd f n i = e) (h2 : 1 < e - i ∧ f i = 48) : number f n i0 = none := by
  subst hI
  unfold number
  rw [hE, if_pos h2]
  simp
theorem number_bare {f : Nat → Int} {n i0 i : Nat} (hI : i = sgn f n i0) (hE : dEnd f n i = i) : number f n i0 = none := by
  subst hI
  simp [number, hE]
theorem frac_dot {f : Nat → Int} {n e e2 : Nat} (h : e < n) (hd : f e = 46) (he : dEnd f n (e + 1) = e2) (hne : ¬ e2 = e + 1) : frac f n e = some e2 := by
  simp [frac, h, hd, he, hne]
theorem frac_bad {f : Nat → Int} {n e : Nat} (h : e < n) (hd : f e = 46) (he : dEnd f n (e + 1) = e + 1) : frac f n e = none := by
  simp [frac, h, hd, he]
theorem frac_not {f : Nat → Int} {n e : Nat} (h : ¬ (e < n ∧ f e = 46)) : frac f n e = some e := by
  simp [frac, h]
theorem expo_not {f : Nat → Int} {n e : Nat} (h : ¬ (e < n ∧ (f e = 101 ∨ f e = 69))) : expo f n e = some e := by
  unfold expo; rw [if_neg h]
theorem expo_yes {f : Nat → Int} {n e x z : Nat} (h : e < n ∧ (f e = 101 ∨ f e = 69)) (hx : x = xsgn f n (e + 1)) (hz : dEnd f n x = z) (hne : ¬ z = x) : expo f n e = some z := by
  unfold expo; rw [if_pos h, ← hx, hz, if_neg hne]
theorem expo_bad {f : Nat → Int} {n e x : Nat} (h : e < n ∧ (f e = 101 ∨ f e = 69)) (hx : x = xsgn f n (e + 1)) (hz : dEnd f n x = x) : expo f n e = none := by
  unfold expo; rw [if_pos h, ← hx, hz]; simp

/-- A text that ends where the number would begin writes none. -/
theorem number_end (f : Nat → Int) (n : Nat) : number f n n = none := by
  have e : sgn f n n = n := by simp [sgn]
  simp [number, e, dEnd_stop]

end Go.Proofs.YbulkbvicFmt

/-
  Seat b3590aF: LawS3590ABuiltToldSaid, proved.
-/
import Derived.Test.YbulkbvicFmtG
import Derived.Test.YbulkbvicFmtJ
namespace Go.Proofs.YbulkbvicFmt
open Go.ChangeShapes Go.WideShapes Go.ChangeAt Go.RowKit Go.Kit
open Go.Extern.Stop Go.Stop Go.Extern

set_option maxHeartbeats 4000000 in
set_option maxRecDepth 100000 in
theorem built_long (c0 c3 c4 : Int) (p1 p2 p5 : Option Addr) (n1 n2 n5 cap1 cap2 cap5 : Nat) (h : 1024 < n1 ∨ 1024 < n2 ∨ 1024 < n5) (w : World) :
    Calls Ybaf.prog 5 #[.int .u8 c0, .slice p1 n1 cap1, .slice p2 n2 cap2, .int .u8 c3, .int .u8 c4, .slice p5 n5 cap5] w fun e w' => e = .returned (.bool true) ∧ Below w.heap.size w w' := by
  have HH : Hid (decide ((1024 : Int) < n1) = true ∨ (decide ((1024 : Int) < n1) = false ∧ decide ((1024 : Int) < n2) = true) ∨ (decide ((1024 : Int) < n1) = false ∧ decide ((1024 : Int) < n2) = false ∧ decide ((1024 : Int) < n5) = true)) := by
    show _ ∨ _
    by_cases a : 1024 < n1
    · left; simp; omega
    · by_cases b : 1024 < n2
      · right; left; simp; omega
      · right; right; simp; omega
  clear h
  rcases HH.out with h1 | ⟨h1, h2⟩ | ⟨h1, h2, h3⟩
  · go_enter Ybaf.func5, Ybaf.ntmps5
    go_wp2_with fail
    go_ret
    exact ⟨rfl, Below.refl _ w⟩
  · go_enter Ybaf.func5, Ybaf.ntmps5
    go_wp2_with fail
    go_ret
    exact ⟨rfl, Below.refl _ w⟩
  · go_enter Ybaf.func5, Ybaf.ntmps5
    go_wp2_with fail
    go_ret
    exact ⟨rfl, Below.refl _ w⟩

theorem cons_mk {H : Type} {enc : TypeId × Value → H} {P : Program} {w : World} {base : Nat} {spare : Nat → Bool} {held : Bool} {t : TypeId} {ts : List TypeId} {v : Value} {vs : List Value} {d : DataW H} {ds : List (DataW H)} {p p' : List MemPlace}
    (h : DataW.Trod enc P w base spare held t v d p) (h' : DataW.TrodAll enc P w base spare held ts vs ds p') : DataW.TrodAll enc P w base spare held (t :: ts) (v :: vs) (d :: ds) (p ++ p') := ⟨p, p', h, h', rfl⟩

theorem byte_bounds {c : Int} (hw : (Lit.int .u8 c).wf = true) : 0 ≤ c ∧ c ≤ 255 := by
  simp [Lit.wf, IntKind.min, IntKind.max, IntKind.signed, IntKind.bits] at hw
  simpa using hw

set_option maxRecDepth 100000 in
theorem built_lifted (os : Os) (started : os.Started) (H : Type) (enc : TypeId × Value → H) :
    ReturnsInTold none {} Ybaf.checked os 5 .any Input.okWide ((OpenSpec.ofChange Rows.lawS3590ABuiltSpec).preRow enc Ybaf.prog Ybaf.f5 [] false []) (fun F => ((OpenSpec.ofChange Rows.lawS3590ABuiltSpec).at F).post enc Ybaf.prog Ybaf.f5 false true false false) (aloneAtReturn Ybaf.prog) nothingAlways := by
  refine returnsInTold_of_row (C := Ybaf.checked) (s := OpenSpec.ofChange Rows.lawS3590ABuiltSpec) (by kernel_rfl) Ybaf.own started (by kernel_rfl) Ybaf.func5
    (OpenSpec.witness_stopped (enc := enc) (C := Ybaf.checked) false ⟨#[], #[.int .u8 0, .slice none 0 0, .slice none 0 0, .int .u8 0, .int .u8 0, .slice none 0 0], []⟩ 8 (by kernel_rfl) (by kernel_rfl) (by kernel_rfl) (by kernel_rfl)) ?_
  intro F W base args ds gs before _ hF hval0 hW _ _ hsz _ _
  have hval : ∀ (j : Nat) t v, Ybaf.f5.params[j]? = some t → args[j]? = some v → Value.okWide Ybaf.prog W .any base t v := hval0
  have hW' := hW
  obtain ⟨p, q, hA0, hV, rfl, _, _⟩ := hW
  have hA : DataW.TrodAll enc Ybaf.prog W 0 (fun _ => true) true Ybaf.f5.params.toList args.toList ds p := hA0
  rw [Ybaf.params5] at hA hval
  obtain ⟨v0, vs0, d0, ds0, q0, r0, ha0, rfl, rfl, t0, hA⟩ := trodAll_cons hA
  obtain ⟨v1, vs1, d1, ds1, q1, r1, rfl, rfl, rfl, t1, hA⟩ := trodAll_cons hA
  obtain ⟨v2, vs2, d2, ds2, q2, r2, rfl, rfl, rfl, t2, hA⟩ := trodAll_cons hA
  obtain ⟨v3, vs3, d3, ds3, q3, r3, rfl, rfl, rfl, t3, hA⟩ := trodAll_cons hA
  obtain ⟨v4, vs4, d4, ds4, q4, r4, rfl, rfl, rfl, t4, hA⟩ := trodAll_cons hA
  obtain ⟨v5, vs5, d5, ds5, q5, r5, rfl, rfl, rfl, t5, hA⟩ := trodAll_cons hA
  obtain ⟨rfl, rfl, rfl⟩ := trodAll_nil hA
  obtain rfl : args = #[v0, v1, v2, v3, v4, v5] := by cases args; simp_all
  clear ha0
  obtain ⟨rfl, rfl⟩ := trodVars_none hV
  obtain ⟨c0, rfl, rfl, rfl, w0⟩ := open_int Ybaf.underlying5 (hval 0 5 v0 rfl rfl) t0
  obtain ⟨p1, n1, cap1, rfl⟩ := okWide_slice Ybaf.underlying22 (hval 1 22 v1 rfl rfl)
  obtain ⟨p2, n2, cap2, rfl⟩ := okWide_slice Ybaf.underlying22 (hval 2 22 v2 rfl rfl)
  obtain ⟨c3, rfl, rfl, rfl, w3⟩ := open_int Ybaf.underlying5 (hval 3 5 v3 rfl rfl) t3
  obtain ⟨c4, rfl, rfl, rfl, w4⟩ := open_int Ybaf.underlying5 (hval 4 5 v4 rfl rfl) t4
  obtain ⟨p5, n5, cap5, rfl⟩ := okWide_slice Ybaf.underlying22 (hval 5 22 v5 rfl rfl)
  clear hA0 hval0
  have hlt : ∀ x ∈ q1 ++ q2 ++ q5, x.block < W.heap.size := fun x hx => by
    have := hW'.lt x (by simpa using hx)
    simpa using this
  have hargs : ∀ (W' : World) (v : Value) (d : DataW H) (qq : List MemPlace), Below W.heap.size W W' → (∀ x ∈ qq, x ∈ q1 ++ q2 ++ q5) → DataW.Trod enc Ybaf.prog W 0 (fun _ => true) true 22 v d qq → DataW.Trod enc Ybaf.prog W' 0 (fun b => decide (b < W.heap.size)) true 22 v d qq :=
    fun W' v d qq hn hq h => Below.trod Ybaf.laidOut (by kernel_rfl) (of_decide_eq_true (by kernel_rfl)) h hn (fun x hx => hlt x (hq x hx))
  obtain ⟨f1, hT1, hf1⟩ := open_txt t1
  obtain ⟨f2, hT2, hf2⟩ := open_txt t2
  obtain ⟨f5, hT5, hf5⟩ := open_txt t5
  have hwalk : Calls Ybaf.prog 5 #[.int .u8 c0, .slice p1 n1 cap1, .slice p2 n2 cap2, .int .u8 c3, .int .u8 c4, .slice p5 n5 cap5] W fun e w' => e = .returned (.bool true) ∧ Below W.heap.size W w' := by
    by_cases h : 1024 < n1 ∨ 1024 < n2 ∨ 1024 < n5
    · exact built_long c0 c3 c4 p1 p2 p5 n1 n2 n5 cap1 cap2 cap5 h W
    · exact built_in c0 c3 c4 p1 p2 p5 n1 n2 n5 cap1 cap2 cap5 f1 f2 f5 (byte_bounds w0) (byte_bounds w3) (byte_bounds w4) hf1 hf2 hf5 (by omega) (by omega) (by omega) W hT1 hT2 hT5
  refine hwalk.mono fun e W' ⟨he, hnx⟩ => ?_
  subst he
  have k1 := hargs W' _ _ _ hnx (fun x hx => by simp [hx]) t1
  have k2 := hargs W' _ _ _ hnx (fun x hx => by simp [hx]) t2
  have k5 := hargs W' _ _ _ hnx (fun x hx => by simp [hx]) t5
  have hAll := cons_mk (shut_int (enc := enc) (w := W') (base := 0) (spare := fun b => decide (b < W.heap.size)) (held := true) Ybaf.underlying5 w0) (cons_mk k1 (cons_mk k2 (cons_mk (shut_int Ybaf.underlying5 w3) (cons_mk (shut_int Ybaf.underlying5 w4) (trodAll_mk1 k5)))))
  exact ⟨_, rfl, _, _, _, [], _, [], hW', trodAll_mk1 (shut_bool Ybaf.underlying4 _), hAll, rfl, hnx.frame _, fun h => by cases h⟩

theorem lawS3590ABuilt_proved : Rows.LawS3590ABuiltToldSaid :=
  Claim7.holds_of_told_any (c := Rows.lawS3590ABuiltRow) 5 Ybaf.f5 _ _ [] _ _ _ (by kernel_rfl) rfl rfl rfl Ybaf.laidOut (by kernel_rfl) rfl ⟨rfl, rfl, rfl, rfl, rfl, rfl, rfl⟩ rfl rfl (by kernel_rfl) (by kernel_rfl) Ybaf.func5 (by kernel_rfl)
    (of_decide_eq_true (by kernel_rfl)) (of_decide_eq_true (by kernel_rfl)) Ybaf.stops.symm rfl Ybaf.stopKnobs.symm (by kernel_rfl)
    (by kernel_rfl) (by kernel_rfl) (by kernel_rfl) (by kernel_rfl) (by kernel_rfl) (by kernel_rfl) (by kernel_rfl) (by kernel_rfl) (by kernel_rfl) rfl (by kernel_rfl) rfl rfl
    rfl rfl
    rfl (by kernel_rfl) (by kernel_rfl) (by kernel_rfl) (by decide) (by kernel_rfl)
    (OpenClaim.moreEntering_of (by kernel_rfl) (by kernel_rfl) (by kernel_rfl) (by kernel_rfl) (by kernel_rfl) (by kernel_rfl) (by kernel_rfl) (by kernel_rfl) (by kernel_rfl) (by kernel_rfl))
    ⟨_, WideRow.started_initial, Ybaf.quiet _⟩
    (fun os started _ H enc _ => built_lifted os started H enc)

end Go.Proofs.YbulkbvicFmt

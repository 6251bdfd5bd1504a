/-
  Seat b3590aF: the walk of scanNumber.
-/
import Derived.Test.YbulkbvicFmtA
import Derived.Deep.DeepCutAuto
namespace Go.Proofs.YbulkbvicFmt
open Go.RowKit Go.Extern.Stop Go.Stop Go.Extern

abbrev z4 : Value := .agg #[.int .i64 0, .int .i64 0, .int .i64 0, .int .i64 0]
abbrev Z4 : Obj := .cells #[.int .i64 0, .int .i64 0, .int .i64 0, .int .i64 0] 25
abbrev num4 (s a fe z : Nat) : Value := .agg #[.int .i64 s, .int .i64 a, .int .i64 fe, .int .i64 z]

/-- What scanNumber hands back. -/
def ScanPost (f : Nat → Int) (n i : Nat) (e : Ending) : Prop :=
  match number f n i with
  | some (a, fe, z) => e = .returned (.tuple #[num4 i a fe z, .nilIface])
  | none => ∃ p, e = .returned (.tuple #[z4, .iface 119 (.pointer (some p))])

/-- The result's own block, behind a call. -/
theorem res_cells {w w' : World} (h : Below (w.alloc Z4).heap.size (w.alloc Z4) w') :
    (w'.cell? ⟨w.heap.size, 0, none⟩ = some (.int .i64 0) ∧ w'.cell? ⟨w.heap.size, 1, none⟩ = some (.int .i64 0) ∧ w'.cell? ⟨w.heap.size, 2, none⟩ = some (.int .i64 0) ∧ w'.cell? ⟨w.heap.size, 3, none⟩ = some (.int .i64 0)) ∧
    (w'.frozen? ⟨w.heap.size, 0, none⟩ = false ∧ w'.frozen? ⟨w.heap.size, 1, none⟩ = false ∧ w'.frozen? ⟨w.heap.size, 2, none⟩ = false ∧ w'.frozen? ⟨w.heap.size, 3, none⟩ = false) := by
  have hl : w.heap.size < (w.alloc Z4).heap.size := by simp
  refine ⟨⟨cell_later h (by go_simp), cell_later h (by go_simp), cell_later h (by go_simp), cell_later h (by go_simp)⟩, ?_, ?_, ?_, ?_⟩
  · rw [h.frozen hl]; go_simp
  · rw [h.frozen hl]; go_simp
  · rw [h.frozen hl]; go_simp
  · rw [h.frozen hl]; go_simp

theorem post_err {f : Nat → Int} {n i0 : Nat} (h : number f n i0 = none) (a : Addr) : ScanPost f n i0 (.returned (.tuple #[z4, .iface 119 (.pointer (some a))])) := by
  unfold ScanPost; rw [h]; exact ⟨a, rfl⟩
theorem post_ok {f : Nat → Int} {n i0 x fe z : Nat} (h : number f n i0 = some (x, fe, z)) : ScanPost f n i0 (.returned (.tuple #[num4 i0 x fe z, .nilIface])) := by
  unfold ScanPost; rw [h]
theorem bel_err {w w' : World} (h : Below (w.alloc Z4).heap.size (w.alloc Z4) w') (v0 v1 v2 v3 : Value) :
    Below w.heap.size w ((((w'.setCell ⟨w.heap.size, 0, none⟩ v0).setCell ⟨w.heap.size, 1, none⟩ v1).setCell ⟨w.heap.size, 2, none⟩ v2).setCell ⟨w.heap.size, 3, none⟩ v3) :=
  ((((((Below.refl _ w).alloc (Nat.le_refl _) _).trans (h.mono (by simp))).setCell (p := ⟨w.heap.size, 0, none⟩) (Nat.le_refl _) _).setCell (p := ⟨w.heap.size, 1, none⟩) (Nat.le_refl _) _).setCell (p := ⟨w.heap.size, 2, none⟩) (Nat.le_refl _) _).setCell (p := ⟨w.heap.size, 3, none⟩) (Nat.le_refl _) _

theorem digits_at (b off n cap : Nat) (f : Nat → Int) (i e : Nat) (he : dEnd f n i = e) (j : Int) (hj : j = (i : Int)) (hi : i ≤ n) (hn : n ≤ 100000) (w w' : World) (hb : Below w.heap.size w w') (hc : ∀ k, k < n → w.cell? ⟨b, off + k, none⟩ = some (.int .u8 (f k))) :
    Calls Ybaf.prog 35 #[.slice (some ⟨b, off, none⟩) n cap, .int .i64 j] w' fun r w'' => r = .returned (.int .i64 (e : Int)) ∧ w'' = w' := by
  subst he
  exact digits_any b off n cap f i j hj hi hn w' (fun k hk => cell_later hb (hc k hk))

set_option maxHeartbeats 4000000 in
set_option maxRecDepth 100000 in
theorem scan_any (b off n cap : Nat) (f : Nat → Int) (i0 : Nat) (hi : i0 < n) (hn : n ≤ 100000) (w : World) (hb : b < w.heap.size) (hc : ∀ k, k < n → w.cell? ⟨b, off + k, none⟩ = some (.int .u8 (f k))) :
    Calls Ybaf.prog 27 #[.slice (some ⟨b, off, none⟩) n cap, .int .i64 i0] w fun e w' => ScanPost f n i0 e ∧ Below w.heap.size w w' := by
  have HC : Hid _ := hc
  obtain ⟨x0, hx0⟩ : ∃ x, x = f i0 := ⟨_, rfl⟩
  have hc0 : w.cell? ⟨b, off + i0, none⟩ = some (.int .u8 x0) := by rw [hx0]; exact hc i0 hi
  obtain ⟨i, hie⟩ : ∃ i, i = sgn f n i0 := ⟨_, rfl⟩
  have HI : Hid (i = sgn f n i0) := hie
  have hile : i ≤ n := by rw [hie]; exact sgn_le (by omega)
  have HS : Hid (((x0 == 45) = true ∧ i = i0 + 1) ∨ ((x0 == 45) = false ∧ i = i0)) := by
    show _ ∨ _
    by_cases h : x0 = 45
    · left; exact ⟨by simp [h], by rw [hie]; simp [sgn, hi, ← hx0, h]⟩
    · right; exact ⟨by simp [h], by rw [hie]; simp [sgn, ← hx0, h]⟩
  clear hc hx0 hie
  go_enter Ybaf.func27, Ybaf.ntmps27
  go_upto_if 18 with fail
  go_cut [1] (fun s wx => s = .int .i64 (i : Int) ∧ wx = w.alloc Z4)
  case first =>
    rcases HS.out with ⟨hs, he⟩ | ⟨hs, he⟩
    · have HE : Hid _ := he
      clear he
      go_wp2_with fail
      go_meet
      case rel => exact ⟨by rw [HE.out]; go_num, rfl⟩
    · have HE : Hid _ := he
      clear he
      go_wp2_with fail
      go_meet
      case rel => exact ⟨by rw [HE.out], rfl⟩
  case rest =>
    obtain ⟨rfl, rfl⟩ := hcut
    clear HS hc0
    obtain ⟨e, he⟩ : ∃ e, dEnd f n i = e := ⟨_, rfl⟩
    have hge : i ≤ e := by rw [← he]; exact dEnd_ge f n i
    have hle : e ≤ n := by rw [← he]; exact dEnd_le hile
    have bel : Below w.heap.size w (w.alloc Z4) := (Below.refl _ w).alloc (Nat.le_refl _) _
    have HD := fun (W : World) (hW : Below w.heap.size w W) => digits_at b off n cap f i e he (i : Int) rfl hile hn w W hW HC.out
    have HE : Hid _ := he
    have HDD : Hid _ := HD
    have HBL : Hid _ := bel
    clear he HD bel
    by_cases h1 : e = i
    · have HN : Hid (number f n i0 = none) := number_bare HI.out (by rw [HE.out, h1])
      subst h1
      go_wp2_with (first | (go_at_call 35; refine (HDD.out _ HBL.out).mono ?_; rintro r w' ⟨rfl, rfl⟩) | (go_at_call 36; refine (errorAt_any _ _ (by kernel_rfl) _).mono ?_; rintro r w' ⟨⟨a, rfl⟩, hbw⟩; obtain ⟨⟨k0, k1, k2, k3⟩, f0, f1, f2, f3⟩ := res_cells hbw))
      exact bodyPost_ret (v := .tuple #[z4, .iface 119 (.pointer (some a))]) (by simp [results, Ybaf.results27, go_sem, k0, k1, k2, k3]) rfl ⟨post_err HN.out a, bel_err hbw _ _ _ _⟩
    have hin : i < n := by omega
    obtain ⟨xi, hxi⟩ : ∃ x, x = f i := ⟨_, rfl⟩
    have hci : w.cell? ⟨b, off + i, none⟩ = some (.int .u8 xi) := by rw [hxi]; exact HC.out i hin
    have hn0 : ((e : Int) - (i : Int) == 0) = false := by simp; omega
    by_cases h2 : 1 < e - i ∧ f i = 48
    · have HN : Hid (number f n i0 = none) := number_zero HI.out HE.out h2
      have hl : (1 : Int) < (e : Int) - (i : Int) := by omega
      have hq : (xi == 48) = true := by rw [hxi, h2.2]; rfl
      clear h2 hxi
      go_wp2_with (first | (go_at_call 35; refine (HDD.out _ HBL.out).mono ?_; rintro r w' ⟨rfl, rfl⟩) | (go_at_call 36; refine (errorAt_any _ _ (by kernel_rfl) _).mono ?_; rintro r w' ⟨⟨a, rfl⟩, hbw⟩; obtain ⟨⟨k0, k1, k2, k3⟩, f0, f1, f2, f3⟩ := res_cells hbw))
      exact bodyPost_ret (v := .tuple #[z4, .iface 119 (.pointer (some a))]) (by simp [results, Ybaf.results27, go_sem, k0, k1, k2, k3]) rfl ⟨post_err HN.out a, bel_err hbw _ _ _ _⟩
    have H2 : Hid _ := h2
    have HZ : Hid (¬ (1 : Int) < (e : Int) - (i : Int) ∨ ((1 : Int) < (e : Int) - (i : Int) ∧ (xi == 48) = false)) := by
      show _ ∨ _
      by_cases hl : (1 : Int) < (e : Int) - (i : Int)
      · exact .inr ⟨hl, by rw [hxi]; simp; exact fun h => h2 ⟨by omega, h⟩⟩
      · exact .inl hl
    clear h2 hxi
    go_upto_region 9 with (go_at_call 35; refine (HDD.out _ HBL.out).mono ?_; rintro r w' ⟨rfl, rfl⟩)
    go_cut [35] (fun s wx => s = .bool false ∧ wx = w.alloc Z4)
    case first =>
      rcases HZ.out with hl | ⟨hl, hq⟩
      · have hl' : decide ((1 : Int) < (e : Int) - (i : Int)) = false := by simpa using hl
        go_wp2_with fail
        go_meet
        case rel => exact ⟨rfl, rfl⟩
      · go_wp2_with fail
        go_meet
        case rel => exact ⟨rfl, rfl⟩
    case rest =>
      obtain ⟨rfl, rfl⟩ := hcut
      clear HZ HDD hci hn0
      have H1 : Hid _ := h1
      clear h1
      by_cases h3 : e = n
      · have HN : Hid (number f n i0 = some (e, e, e)) := number_some HI.out HE.out H1.out H2.out (frac_not (by omega)) (expo_not (by omega))
        have hq3 : ((e : Int) == (n : Int)) = true := by simp; omega
        clear h3
        go_wp2_with fail
        exact bodyPost_ret (v := .tuple #[num4 i0 e e e, .nilIface]) (by simp [results, Ybaf.results27, go_sem]) rfl ⟨post_ok HN.out, (Below.refl _ w).alloc (Nat.le_refl _) _⟩
      have hen : e < n := by omega
      have hq3 : ((e : Int) == (n : Int)) = false := by simp; omega
      obtain ⟨xe, hxe⟩ : ∃ x, x = f e := ⟨_, rfl⟩
      have hce : w.cell? ⟨b, off + e, none⟩ = some (.int .u8 xe) := by rw [hxe]; exact HC.out e hen
      clear h3
      obtain ⟨e2, he2⟩ : ∃ e2, dEnd f n (e + 1) = e2 := ⟨_, rfl⟩
      have HE2 : Hid _ := he2
      have hle2 : e2 ≤ n := by rw [← he2]; exact dEnd_le (by omega)
      have HDD2 : Hid _ := fun (W : World) (hW : Below w.heap.size w W) => digits_at b off n cap f (e + 1) e2 he2 ((e : Int) + 1) (by omega) (by omega) hn w W hW HC.out
      clear he2
      by_cases h4 : f e = 46 ∧ e2 = e + 1
      · have HN : Hid (number f n i0 = none) := number_nofrac HI.out HE.out H1.out H2.out (frac_bad hen h4.1 (by rw [HE2.out, h4.2]))
        have hq1 : (xe != 46) = false := by rw [hxe, h4.1]; rfl
        have hq2 : (xe == 46) = true := by rw [hxe, h4.1]; rfl
        have hq4 : ((e2 : Int) == (e : Int) + 1) = true := by simp; omega
        clear h4 hxe
        go_wp2_with (first | (go_at_call 35; refine (HDD2.out _ HBL.out).mono ?_; rintro r w' ⟨rfl, rfl⟩) | (go_at_call 36; refine (errorAt_any _ _ (by kernel_rfl) _).mono ?_; rintro r w' ⟨⟨a, rfl⟩, hbw⟩; obtain ⟨⟨k0, k1, k2, k3⟩, f0, f1, f2, f3⟩ := res_cells hbw))
        exact bodyPost_ret (v := .tuple #[z4, .iface 119 (.pointer (some a))]) (by simp [results, Ybaf.results27, go_sem, k0, k1, k2, k3]) rfl ⟨post_err HN.out a, bel_err hbw _ _ _ _⟩
      by_cases h6 : f e = 46 ∨ f e = 101 ∨ f e = 69
      case neg =>
        have HN : Hid (number f n i0 = some (e, e, e)) := number_some HI.out HE.out H1.out H2.out (frac_not (fun h => h6 (.inl h.2))) (expo_not (fun h => h6 (.inr h.2)))
        have hq1 : (xe != 46) = true := by rw [hxe, bne_iff_ne]; exact fun h => h6 (.inl h)
        have hq2 : (xe != 101) = true := by rw [hxe, bne_iff_ne]; exact fun h => h6 (.inr (.inl h))
        have hq4 : (xe != 69) = true := by rw [hxe, bne_iff_ne]; exact fun h => h6 (.inr (.inr h))
        clear h4 h6 hxe
        go_wp2_with fail
        exact bodyPost_ret (v := .tuple #[num4 i0 e e e, .nilIface]) (by simp [results, Ybaf.results27, go_sem]) rfl ⟨post_ok HN.out, (Below.refl _ w).alloc (Nat.le_refl _) _⟩
      case pos =>
        have HW : Hid ((xe != 46) = false ∨ ((xe != 46) = true ∧ (xe != 101) = false) ∨ ((xe != 46) = true ∧ (xe != 101) = true ∧ (xe != 69) = false)) := by
          show _ ∨ _
          rw [hxe]
          rcases h6 with h | h | h
          · left; rw [h]; rfl
          · right; left; rw [h]; exact ⟨rfl, rfl⟩
          · right; right; rw [h]; exact ⟨rfl, rfl, rfl⟩
        obtain ⟨fe, HF, HV, hfn⟩ : ∃ fe, Hid (frac f n e = some fe) ∧ Hid (((xe == 46) = true ∧ fe = e2 ∧ ((e2 : Int) == (e : Int) + 1) = false) ∨ ((xe == 46) = false ∧ fe = e)) ∧ fe ≤ n := by
          by_cases h5 : f e = 46
          · exact ⟨e2, frac_dot hen h5 HE2.out (fun h => h4 ⟨h5, h⟩), .inl ⟨by rw [hxe, h5]; rfl, rfl, by simp; exact fun h => h4 ⟨h5, by omega⟩⟩, hle2⟩
          · exact ⟨e, frac_not (fun h => h5 h.2), .inr ⟨by rw [hxe]; simpa using h5, rfl⟩, hle⟩
        clear h4 h6 hxe
        go_upto_region 11 with fail
        go_cut [73] (fun s wx => s = .bool false ∧ wx = w.alloc Z4)
        case first =>
          clear HV
          rcases HW.out with h | ⟨h, h'⟩ | ⟨h, h', h''⟩
          · go_wp2_with fail
            go_meet
            case rel => exact ⟨rfl, rfl⟩
          · go_wp2_with fail
            go_meet
            case rel => exact ⟨rfl, rfl⟩
          · go_wp2_with fail
            go_meet
            case rel => exact ⟨rfl, rfl⟩
        case rest =>
          obtain ⟨rfl, rfl⟩ := hcut
          clear HW
          go_upto_if 84 with fail
          go_cut [1] (fun s wx => s = .int .i64 (fe : Int) ∧ wx = w.alloc Z4)
          case first =>
            rcases HV.out with ⟨h, h', h''⟩ | ⟨h, h'⟩
            · subst h'
              go_wp2_with (go_at_call 35; refine (HDD2.out _ HBL.out).mono ?_; rintro r w' ⟨rfl, rfl⟩)
              go_meet
              case rel => exact ⟨rfl, rfl⟩
            · subst h'
              go_wp2_with fail
              go_meet
              case rel => exact ⟨rfl, rfl⟩
          case rest =>
            obtain ⟨rfl, rfl⟩ := hcut
            clear HV HDD2 hce
            by_cases h7 : fe < n
            case neg =>
              have HN : Hid (number f n i0 = some (e, fe, fe)) := number_some HI.out HE.out H1.out H2.out HF.out (expo_not (fun h => h7 h.1))
              have hl7 : decide ((fe : Int) < (n : Int)) = false := by simp; omega
              go_wp2_with fail
              exact bodyPost_ret (v := .tuple #[num4 i0 e fe fe, .nilIface]) (by simp [results, Ybaf.results27, go_sem]) rfl ⟨post_ok HN.out, (Below.refl _ w).alloc (Nat.le_refl _) _⟩
            case pos =>
              obtain ⟨xf, hxf⟩ : ∃ x, x = f fe := ⟨_, rfl⟩
              have hcf : w.cell? ⟨b, off + fe, none⟩ = some (.int .u8 xf) := by rw [hxf]; exact HC.out fe h7
              by_cases h8 : f fe = 101 ∨ f fe = 69
              case neg =>
                have HN : Hid (number f n i0 = some (e, fe, fe)) := number_some HI.out HE.out H1.out H2.out HF.out (expo_not (fun h => h8 h.2))
                have hq1 : (xf == 101) = false := by rw [hxf, beq_eq_false_iff_ne]; exact fun h => h8 (.inl h)
                have hq2 : (xf == 69) = false := by rw [hxf, beq_eq_false_iff_ne]; exact fun h => h8 (.inr h)
                clear h8 hxf
                go_wp2_with fail
                exact bodyPost_ret (v := .tuple #[num4 i0 e fe fe, .nilIface]) (by simp [results, Ybaf.results27, go_sem]) rfl ⟨post_ok HN.out, (Below.refl _ w).alloc (Nat.le_refl _) _⟩
              case pos =>
                have HW : Hid ((xf == 101) = true ∨ ((xf == 101) = false ∧ (xf == 69) = true)) := by
                  show _ ∨ _
                  rw [hxf]
                  rcases h8 with h | h
                  · left; rw [h]; rfl
                  · right; rw [h]; exact ⟨rfl, rfl⟩
                have H8 : Hid (fe < n ∧ (f fe = 101 ∨ f fe = 69)) := ⟨h7, h8⟩
                clear h8 hxf
                go_upto_region 21 with fail
                go_cut [116] (fun s wx => s = .bool true ∧ wx = w.alloc Z4)
                case first =>
                  rcases HW.out with h | ⟨h, h'⟩
                  · go_wp2_with fail
                    go_meet
                    case rel => exact ⟨rfl, rfl⟩
                  · go_wp2_with fail
                    go_meet
                    case rel => exact ⟨rfl, rfl⟩
                case rest =>
                  obtain ⟨rfl, rfl⟩ := hcut
                  clear HW hcf
                  obtain ⟨x, hx⟩ : ∃ x, x = xsgn f n (fe + 1) := ⟨_, rfl⟩
                  have HX : Hid _ := hx
                  have hxle : x ≤ n := by rw [hx]; exact xsgn_le (by omega)
                  obtain ⟨sb, HV, HY⟩ : ∃ sb : Bool, Hid ((¬ fe + 1 < n ∧ sb = false) ∨ (fe + 1 < n ∧ ((f (fe + 1) = 43 ∧ sb = true) ∨ (f (fe + 1) = 45 ∧ sb = true) ∨ (f (fe + 1) ≠ 43 ∧ f (fe + 1) ≠ 45 ∧ sb = false)))) ∧ Hid ((sb = true ∧ x = fe + 1 + 1) ∨ (sb = false ∧ x = fe + 1)) := by
                    rw [hx]
                    unfold xsgn
                    by_cases ha : fe + 1 < n
                    · by_cases hb1 : f (fe + 1) = 43
                      · exact ⟨true, .inr ⟨ha, .inl ⟨hb1, rfl⟩⟩, .inl ⟨rfl, by simp [ha, hb1]⟩⟩
                      · by_cases hb2 : f (fe + 1) = 45
                        · exact ⟨true, .inr ⟨ha, .inr (.inl ⟨hb2, rfl⟩)⟩, .inl ⟨rfl, by simp [ha, hb2]⟩⟩
                        · exact ⟨false, .inr ⟨ha, .inr (.inr ⟨hb1, hb2, rfl⟩)⟩, .inr ⟨rfl, by simp [hb1, hb2]⟩⟩
                    · exact ⟨false, .inl ⟨ha, rfl⟩, .inr ⟨rfl, by simp [ha]⟩⟩
                  clear hx
                  go_upto_region 23 with fail
                  go_cut [1, 136] (fun s1 s wx => s1 = .int .i64 ((fe + 1 : Nat) : Int) ∧ s = .bool sb ∧ wx = w.alloc Z4)
                  case first =>
                    clear HY
                    rcases HV.out with ⟨ha, rfl⟩ | ⟨ha, hz⟩
                    · have hl : decide ((fe : Int) + 1 < (n : Int)) = false := by simp; omega
                      clear ha
                      go_wp2_with fail
                      go_meet
                      case rel => exact ⟨by go_num, rfl, rfl⟩
                    · obtain ⟨xg, hxg⟩ : ∃ x, x = f (fe + 1) := ⟨_, rfl⟩
                      have hcg : w.cell? ⟨b, off + (fe + 1), none⟩ = some (.int .u8 xg) := by rw [hxg]; exact HC.out (fe + 1) ha
                      have hl : (fe : Int) + 1 < (n : Int) := by omega
                      clear ha
                      rcases hz with ⟨h, rfl⟩ | ⟨h, rfl⟩ | ⟨h, h', rfl⟩
                      · have hq : (xg == 43) = true := by rw [hxg, h]; rfl
                        clear h hxg
                        go_wp2_with fail
                        go_meet
                        case rel => exact ⟨by go_num, rfl, rfl⟩
                      · have hq : (xg == 43) = false := by rw [hxg, h]; rfl
                        have hq' : (xg == 45) = true := by rw [hxg, h]; rfl
                        clear h hxg
                        go_wp2_with fail
                        go_meet
                        case rel => exact ⟨by go_num, rfl, rfl⟩
                      · have hq : (xg == 43) = false := by rw [hxg]; simpa using h
                        have hq' : (xg == 45) = false := by rw [hxg]; simpa using h'
                        clear h h' hxg
                        go_wp2_with fail
                        go_meet
                        case rel => exact ⟨by go_num, rfl, rfl⟩
                  case rest =>
                  obtain ⟨rfl, rfl, rfl⟩ := hcut
                  clear HV
                  go_upto_if 136 with fail
                  go_cut [1] (fun s wx => s = .int .i64 (x : Int) ∧ wx = w.alloc Z4)
                  case first =>
                    rcases HY.out with ⟨rfl, h⟩ | ⟨rfl, h⟩
                    · have HE1 : Hid _ := h
                      clear h
                      go_wp2_with fail
                      go_meet
                      case rel => exact ⟨by rw [HE1.out]; go_num, rfl⟩
                    · have HE1 : Hid _ := h
                      clear h
                      go_wp2_with fail
                      go_meet
                      case rel => exact ⟨by rw [HE1.out]; go_num, rfl⟩
                  case rest =>
                    obtain ⟨rfl, rfl⟩ := hcut
                    clear HY
                    obtain ⟨z, hz⟩ : ∃ z, dEnd f n x = z := ⟨_, rfl⟩
                    have HZ : Hid _ := hz
                    have hzle : z ≤ n := by rw [← hz]; exact dEnd_le hxle
                    have HDD3 : Hid _ := fun (W : World) (hW : Below w.heap.size w W) => digits_at b off n cap f x z hz (x : Int) rfl hxle hn w W hW HC.out
                    clear hz
                    by_cases h9 : z = x
                    · have HN : Hid (number f n i0 = none) := number_noexp HI.out HE.out H1.out H2.out HF.out (expo_bad H8.out HX.out (by rw [HZ.out, h9]))
                      have hq : ((z : Int) == (x : Int)) = true := by simp; omega
                      clear h9
                      go_wp2_with (first | (go_at_call 35; refine (HDD3.out _ HBL.out).mono ?_; rintro r w' ⟨rfl, rfl⟩) | (go_at_call 36; refine (errorAt_any _ _ (by kernel_rfl) _).mono ?_; rintro r w' ⟨⟨a, rfl⟩, hbw⟩; obtain ⟨⟨k0, k1, k2, k3⟩, f0, f1, f2, f3⟩ := res_cells hbw))
                      exact bodyPost_ret (v := .tuple #[z4, .iface 119 (.pointer (some a))]) (by simp [results, Ybaf.results27, go_sem, k0, k1, k2, k3]) rfl ⟨post_err HN.out a, bel_err hbw _ _ _ _⟩
                    · have HN : Hid (number f n i0 = some (e, fe, z)) := number_some HI.out HE.out H1.out H2.out HF.out (expo_yes H8.out HX.out HZ.out h9)
                      have hq : ((z : Int) == (x : Int)) = false := by simp; omega
                      clear h9
                      go_wp2_with (go_at_call 35; refine (HDD3.out _ HBL.out).mono ?_; rintro r w' ⟨rfl, rfl⟩)
                      exact bodyPost_ret (v := .tuple #[num4 i0 e fe z, .nilIface]) (by simp [results, Ybaf.results27, go_sem]) rfl ⟨post_ok HN.out, (Below.refl _ w).alloc (Nat.le_refl _) _⟩

end Go.Proofs.YbulkbvicFmt

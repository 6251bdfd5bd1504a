/-
  Seat b3590aF: the walk of the law's own model, zzs3590amodel.
-/
import Derived.Test.YbulkbvicFmtC
import Derived.Deep.CutBlock
namespace Go.Proofs.YbulkbvicFmt
open Go.RowKit Go.Extern.Stop Go.Stop Go.Extern

theorem dig_no1 {x : Int} (h : decide (48 ≤ x) = false) : dig x = false := by simp [dig, h]
theorem dig_no2 {x : Int} (h : decide (x ≤ 57) = false) : dig x = false := by simp [dig, h]
theorem dig_yes {x : Int} (h : decide (48 ≤ x) = true) (h' : decide (x ≤ 57) = true) : dig x = true := by simp [dig, h, h']

set_option maxHeartbeats 8000000 in
set_option maxRecDepth 100000 in
theorem model_in (b off n cap : Nat) (f : Nat → Int) (h0 : 0 < n) (hn : n ≤ 100000) (w : World) (hb : b < w.heap.size) (hc : ∀ k, k < n → w.cell? ⟨b, off + k, none⟩ = some (.int .u8 (f k))) :
    Calls Ybaf.prog 16 #[.slice (some ⟨b, off, none⟩) n cap] w fun e w' => Parsed (whole f n) (plus f n) e ∧ Below w.heap.size w w' := by
  have HC : Hid _ := hc
  obtain ⟨x0, hx0⟩ : ∃ x, x = f 0 := ⟨_, rfl⟩
  have hc0 : w.cell? ⟨b, off, none⟩ = some (.int .u8 x0) := by rw [hx0]; exact hc 0 h0
  obtain ⟨i0, hie⟩ : ∃ i, i = plus f n := ⟨_, rfl⟩
  have HI0 : Hid (i0 = plus f n) := hie
  have hi0le : i0 ≤ n := by rw [hie]; exact plus_le
  have HS : Hid ((¬ (1 : Int) < n ∧ i0 = 0) ∨ ((1 : Int) < n ∧ (((x0 == 43) = false ∧ i0 = 0) ∨ ((x0 == 43) = true ∧ ∃ x1, w.cell? ⟨b, off + 1, none⟩ = some (.int .u8 x1) ∧ (((x1 != 45) = true ∧ i0 = 1) ∨ ((x1 != 45) = false ∧ i0 = 0)))))) := by
    show _ ∨ _
    rw [hie, hx0]
    unfold plus
    by_cases h1 : 1 < n
    · right
      refine ⟨by omega, ?_⟩
      by_cases h2 : f 0 = 43
      · right
        refine ⟨by rw [h2]; rfl, f 1, hc 1 h1, ?_⟩
        by_cases h3 : f 1 = 45
        · right; exact ⟨by rw [h3]; rfl, by simp [h3]⟩
        · left; exact ⟨by rw [bne_iff_ne]; exact h3, by simp [h1, h2, h3]⟩
      · left; exact ⟨by simpa using h2, by simp [h2]⟩
    · left; exact ⟨by omega, by simp [h1]⟩
  clear hc hx0 hie
  go_enter Ybaf.func16, Ybaf.ntmps16
  go_upto_region 2 with fail
  go_cut [4, 25] (fun s s2 wx => s = .int .i64 0 ∧ s2 = .bool (i0 == 1) ∧ wx = w.alloc Z4)
  case first =>
    as_aux_lemma =>
      rcases HS.out with ⟨h, rfl⟩ | ⟨h, ⟨h', rfl⟩ | ⟨h', x1, hc1, ⟨h'', rfl⟩ | ⟨h'', rfl⟩⟩⟩
      · have hd : decide ((1 : Int) < n) = false := by simpa using h
        clear h
        go_wp2_with fail
        go_meet
        case rel => exact ⟨rfl, rfl, rfl⟩
      · go_wp2_with fail
        go_meet
        case rel => exact ⟨rfl, rfl, rfl⟩
      · go_wp2_with fail
        go_meet
        case rel => exact ⟨rfl, rfl, rfl⟩
      · go_wp2_with fail
        go_meet
        case rel => exact ⟨rfl, rfl, rfl⟩
  case rest =>
    obtain ⟨rfl, rfl, rfl⟩ := hcut
    have HI1 : Hid (i0 = 0 ∨ i0 = 1) := by show _ ∨ _; rw [HI0.out]; unfold plus; split <;> simp
    clear HS hc0
    go_upto_if 25 with fail
    go_cut [4] (fun s wx => s = .int .i64 (i0 : Int) ∧ wx = w.alloc Z4)
    case first =>
      as_aux_lemma =>
        rcases HI1.out with rfl | rfl
        · go_wp2_with fail
          go_meet
          case rel => exact ⟨rfl, rfl⟩
        · go_wp2_with fail
          go_meet
          case rel => exact ⟨rfl, rfl⟩
    case rest =>
      obtain ⟨rfl, rfl⟩ := hcut
      clear HI1
      obtain ⟨i, hie⟩ : ∃ i, i = sgn f n i0 := ⟨_, rfl⟩
      have HI : Hid (i = sgn f n i0) := hie
      have hile : i ≤ n := by rw [hie]; exact sgn_le hi0le
      obtain ⟨sb, HS, HI1⟩ : ∃ sb : Bool, Hid ((¬ (i0 : Int) < n ∧ sb = false) ∨ ((i0 : Int) < n ∧ ∃ x, w.cell? ⟨b, off + i0, none⟩ = some (.int .u8 x) ∧ (x == 45) = sb)) ∧ Hid ((sb = true ∧ i = i0 + 1) ∨ (sb = false ∧ i = i0)) := by
        rw [hie]
        unfold sgn
        by_cases h1 : i0 < n
        · refine ⟨f i0 == 45, .inr ⟨by omega, f i0, HC.out i0 h1, rfl⟩, ?_⟩
          show _ ∨ _
          by_cases h2 : f i0 = 45
          · left; exact ⟨by rw [h2]; rfl, by simp [h1, h2]⟩
          · right; exact ⟨by simpa using h2, by simp [h2]⟩
        · exact ⟨false, .inl ⟨by omega, rfl⟩, .inr ⟨rfl, by simp [h1]⟩⟩
      clear hie
      go_upto_region 5 with fail
      go_cut [37] (fun s wx => s = .bool sb ∧ wx = w.alloc Z4)
      case first =>
        as_aux_lemma =>
          clear HI1
          rcases HS.out with ⟨h, rfl⟩ | ⟨h, x, hcx, h'⟩
          · have hd : decide ((i0 : Int) < n) = false := by simpa using h
            have hN : ¬ i0 < n := by omega
            go_wp2_with fail
            go_meet
            case rel => exact ⟨rfl, rfl⟩
          · clear HS
            go_wp2_with fail
            go_meet
            case rel => exact ⟨rfl, rfl⟩
      case rest =>
        obtain ⟨rfl, rfl⟩ := hcut
        clear HS
        go_upto_if 37 with fail
        go_cut [4] (fun s wx => s = .int .i64 (i : Int) ∧ wx = w.alloc Z4)
        case first =>
          as_aux_lemma =>
            rcases HI1.out with ⟨rfl, h⟩ | ⟨rfl, h⟩
            · have HE1 : Hid _ := h
              clear h
              go_wp2_with fail
              go_meet
              case rel => exact ⟨by rw [HE1.out]; go_num, rfl⟩
            · have HE1 : Hid _ := h
              clear h
              go_wp2_with fail
              go_meet
              case rel => exact ⟨by rw [HE1.out], rfl⟩
        case rest =>
          obtain ⟨rfl, rfl⟩ := hcut
          clear HI1
          obtain ⟨e, he⟩ : ∃ e, dEnd f n i = e := ⟨_, rfl⟩
          have hge : i ≤ e := by rw [← he]; exact dEnd_ge f n i
          have hle : e ≤ n := by rw [← he]; exact dEnd_le hile
          have HE : Hid _ := he
          clear he
          go_upto_block 0 with fail
          go_cut [4] (fun s wx => s = .int .i64 (e : Int) ∧ wx = w.alloc Z4)
          case first =>
            as_aux_lemma =>
              go_wp2_with fail
              go_loop [4] (fun c => ∃ k : Nat, i ≤ k ∧ k ≤ n ∧ c = .int .i64 k ∧ Hid (dEnd f n k = e)) (fun c => n - (intOf c).toNat)
              case atStart => exact ⟨i, Nat.le_refl _, hile, by rfl, HE⟩
              case round =>
                obtain ⟨k, hk, hkn, rfl, hd⟩ := hrel
                by_cases hlt : k < n
                · obtain ⟨x, hx⟩ : ∃ x, x = f k := ⟨_, rfl⟩
                  have hcx : w.cell? ⟨b, off + k, none⟩ = some (.int .u8 x) := by rw [hx]; exact HC.out k hlt
                  cases hy : decide (48 ≤ x)
                  · have HE2 : Hid (e = k) := by show _ = _; rw [← hd.out]; exact dEnd_no (by rw [← hx]; exact dig_no1 hy)
                    clear hx hd
                    go_wp2_with fail
                    go_meet
                    case rel => exact ⟨by rw [HE2.out], rfl⟩
                  · cases hy2 : decide (x ≤ 57)
                    · have HE2 : Hid (e = k) := by show _ = _; rw [← hd.out]; exact dEnd_no (by rw [← hx]; exact dig_no2 hy2)
                      clear hx hd
                      go_wp2_with fail
                      go_meet
                      case rel => exact ⟨by rw [HE2.out], rfl⟩
                    · have HE2 : Hid (dEnd f n (k + 1) = e) := by rw [← hd.out]; exact (dEnd_yes hlt (by rw [← hx]; exact dig_yes hy hy2)).symm
                      clear hx hd
                      go_wp2_with fail
                      go_round
                      case rel => exact ⟨k + 1, by omega, by omega, by go_num, HE2⟩
                      case measure => simp [intOf]; omega
                · have HE2 : Hid (e = k) := by show _ = _; rw [← hd.out]; exact dEnd_stop (by omega)
                  clear hd
                  have hlt' : decide ((k : Int) < n) = false := by simp; omega
                  go_wp2_with fail
                  go_meet
                  case rel => exact ⟨by rw [HE2.out], rfl⟩
          case rest =>
            obtain ⟨rfl, rfl⟩ := hcut
            by_cases h1 : e = i
            · have HN : Hid (whole f n = none) := by show _ = _; rw [whole_eq, ← HI0.out]; exact wholeAt_none (number_bare HI.out (by rw [HE.out, h1]))
              have hq : ((e : Int) == (i : Int)) = true := by rw [h1]; simp
              clear h1
              go_wp2_with fail
              exact bodyPost_ret (v := .tuple #[z4, .bool false]) (by simp [results, Ybaf.results16, go_sem]) rfl ⟨by rw [HN.out]; exact ⟨0, 0, 0, 0, rfl⟩, (Below.refl _ w).alloc (Nat.le_refl _) _⟩
            have hq1 : ((e : Int) == (i : Int)) = false := by simp; omega
            have hin : i < n := by omega
            have H1 : Hid _ := h1
            clear h1
            obtain ⟨xi, hxi⟩ : ∃ x, x = f i := ⟨_, rfl⟩
            have hci : w.cell? ⟨b, off + i, none⟩ = some (.int .u8 xi) := by rw [hxi]; exact HC.out i hin
            by_cases h2 : 1 < e - i ∧ f i = 48
            · have HN : Hid (whole f n = none) := by show _ = _; rw [whole_eq, ← HI0.out]; exact wholeAt_none (number_zero HI.out HE.out h2)
              have hl : (1 : Int) < (e : Int) - (i : Int) := by omega
              have hq : (xi == 48) = true := by rw [hxi, h2.2]; rfl
              clear h2 hxi
              go_wp2_with fail
              exact bodyPost_ret (v := .tuple #[z4, .bool false]) (by simp [results, Ybaf.results16, go_sem]) rfl ⟨by rw [HN.out]; exact ⟨0, 0, 0, 0, rfl⟩, (Below.refl _ w).alloc (Nat.le_refl _) _⟩
            have H2 : Hid _ := h2
            have HZ : Hid (¬ (1 : Int) < (e : Int) - (i : Int) ∨ ((1 : Int) < (e : Int) - (i : Int) ∧ (xi == 48) = false)) := by
              show _ ∨ _
              by_cases hl : (1 : Int) < (e : Int) - (i : Int)
              · exact .inr ⟨hl, by rw [hxi]; simp; exact fun h => h2 ⟨by omega, h⟩⟩
              · exact .inl hl
            clear h2 hxi
            go_upto_region 12 with fail
            go_cut [75] (fun s wx => s = .bool false ∧ wx = w.alloc Z4)
            case first =>
              as_aux_lemma =>
                rcases HZ.out with hl | ⟨hl, hq⟩
                · have hl' : decide ((1 : Int) < (e : Int) - (i : Int)) = false := by simpa using hl
                  go_wp2_with fail
                  go_meet
                  case rel => exact ⟨rfl, rfl⟩
                · go_wp2_with fail
                  go_meet
                  case rel => exact ⟨rfl, rfl⟩
            case rest =>
              obtain ⟨rfl, rfl⟩ := hcut
              clear HZ hci hq1
              obtain ⟨e2, he2⟩ : ∃ e2, dEnd f n (e + 1) = e2 := ⟨_, rfl⟩
              have HE2 : Hid (dEnd f n (e + 1) = e2) := he2
              have hge2 : e + 1 ≤ e2 := by rw [← he2]; exact dEnd_ge _ _ _
              have hle2 : e < n → e2 ≤ n := by intro h; rw [← he2]; exact dEnd_le (by omega)
              clear he2
              obtain ⟨sb, HS, HSB⟩ : ∃ sb : Bool, Hid ((¬ e < n ∧ sb = false) ∨ (e < n ∧ ∃ x, w.cell? ⟨b, off + e, none⟩ = some (.int .u8 x) ∧ (x == 46) = sb)) ∧ Hid ((sb = true ∧ e < n ∧ f e = 46) ∨ (sb = false ∧ ¬ (e < n ∧ f e = 46))) := by
                by_cases ha : e < n
                · refine ⟨f e == 46, .inr ⟨ha, f e, HC.out e ha, rfl⟩, ?_⟩
                  show _ ∨ _
                  by_cases hb1 : f e = 46
                  · left; exact ⟨by rw [hb1]; rfl, ha, hb1⟩
                  · right; exact ⟨by simpa using hb1, fun h => hb1 h.2⟩
                · exact ⟨false, .inl ⟨ha, rfl⟩, .inr ⟨rfl, fun h => ha h.1⟩⟩
              go_upto_region 16 with fail
              go_cut [89] (fun s wx => s = .bool sb ∧ wx = w.alloc Z4)
              case first =>
                as_aux_lemma =>
                  clear HSB hle2
                  rcases HS.out with ⟨h, rfl⟩ | ⟨h, x, hcx, h'⟩
                  · have hd : decide ((e : Int) < (n : Int)) = false := by simp; omega
                    go_wp2_with fail
                    go_meet
                    case rel => exact ⟨rfl, rfl⟩
                  · have hd : (e : Int) < (n : Int) := by omega
                    clear HS
                    go_wp2_with fail
                    go_meet
                    case rel => exact ⟨rfl, rfl⟩
              case rest =>
                obtain ⟨rfl, rfl⟩ := hcut
                clear HS
                by_cases h4 : sb = true ∧ e2 = e + 1
                · obtain ⟨rfl, h4⟩ := h4
                  have ha : e < n ∧ f e = 46 := by
                    rcases HSB.out with ⟨_, h⟩ | ⟨h, _⟩
                    · exact h
                    · cases h
                  have HN : Hid (whole f n = none) := by show _ = _; rw [whole_eq, ← HI0.out]; exact wholeAt_none (number_nofrac HI.out HE.out H1.out H2.out (frac_bad ha.1 ha.2 (by rw [HE2.out, h4])))
                  have hen : e < n := ha.1
                  have hq4 : ((e2 : Int) == (e : Int) + 1) = true := by simp; omega
                  clear HSB ha h4
                  go_upto_block 2 with fail
                  go_cut [4] (fun s wx => s = .int .i64 (e2 : Int) ∧ wx = w.alloc Z4)
                  case first =>
                    as_aux_lemma =>
                      go_wp2_with fail
                      go_loop [4] (fun c => ∃ k : Nat, (e + 1) ≤ k ∧ k ≤ n ∧ c = .int .i64 k ∧ Hid (dEnd f n k = e2)) (fun c => n - (intOf c).toNat)
                      case atStart => exact ⟨(e + 1), Nat.le_refl _, by omega, by go_num, HE2⟩
                      case round =>
                        obtain ⟨k, hk, hkn, rfl, hd⟩ := hrel
                        by_cases hlt : k < n
                        · obtain ⟨x, hx⟩ : ∃ x, x = f k := ⟨_, rfl⟩
                          have hcx : w.cell? ⟨b, off + k, none⟩ = some (.int .u8 x) := by rw [hx]; exact HC.out k hlt
                          cases hy : decide (48 ≤ x)
                          · have HE2 : Hid (e2 = k) := by show _ = _; rw [← hd.out]; exact dEnd_no (by rw [← hx]; exact dig_no1 hy)
                            clear hx hd
                            go_wp2_with fail
                            go_meet
                            case rel => exact ⟨by rw [HE2.out], rfl⟩
                          · cases hy2 : decide (x ≤ 57)
                            · have HE2 : Hid (e2 = k) := by show _ = _; rw [← hd.out]; exact dEnd_no (by rw [← hx]; exact dig_no2 hy2)
                              clear hx hd
                              go_wp2_with fail
                              go_meet
                              case rel => exact ⟨by rw [HE2.out], rfl⟩
                            · have HE2 : Hid (dEnd f n (k + 1) = e2) := by rw [← hd.out]; exact (dEnd_yes hlt (by rw [← hx]; exact dig_yes hy hy2)).symm
                              clear hx hd
                              go_wp2_with fail
                              go_round
                              case rel => exact ⟨k + 1, by omega, by omega, by go_num, HE2⟩
                              case measure => simp [intOf]; omega
                        · have HE2 : Hid (e2 = k) := by show _ = _; rw [← hd.out]; exact dEnd_stop (by omega)
                          clear hd
                          have hlt' : decide ((k : Int) < n) = false := by simp; omega
                          go_wp2_with fail
                          go_meet
                          case rel => exact ⟨by rw [HE2.out], rfl⟩
                  case rest =>
                    obtain ⟨rfl, rfl⟩ := hcut
                    go_wp2_with fail
                    exact bodyPost_ret (v := .tuple #[z4, .bool false]) (by simp [results, Ybaf.results16, go_sem]) rfl ⟨by rw [HN.out]; exact ⟨0, 0, 0, 0, rfl⟩, (Below.refl _ w).alloc (Nat.le_refl _) _⟩
                obtain ⟨fe, HF, HV, hfn⟩ : ∃ fe, Hid (frac f n e = some fe) ∧ Hid ((sb = true ∧ fe = e2 ∧ e < n ∧ ((e2 : Int) == (e : Int) + 1) = false) ∨ (sb = false ∧ fe = e)) ∧ fe ≤ n := by
                  rcases HSB.out with ⟨hs, h5⟩ | ⟨hs, h5⟩
                  · exact ⟨e2, frac_dot h5.1 h5.2 HE2.out (fun h => h4 ⟨hs, h⟩), .inl ⟨hs, rfl, h5.1, by simp; exact fun h => h4 ⟨hs, by omega⟩⟩, hle2 h5.1⟩
                  · exact ⟨e, frac_not h5, .inr ⟨hs, rfl⟩, hle⟩
                clear h4 HSB
                go_upto_if 89 with fail
                go_cut [4, 8] (fun s s8 wx => s = .int .i64 (fe : Int) ∧ s8 = .int .i64 (fe : Int) ∧ wx = w.alloc Z4)
                case first =>
                  as_aux_lemma =>
                    rcases HV.out with ⟨rfl, h', hen, h''⟩ | ⟨rfl, h'⟩
                    · subst h'
                      go_upto_block 2 with fail
                      go_cut [4] (fun s wx => s = .int .i64 (fe : Int) ∧ wx = w.alloc Z4)
                      case first =>
                        go_wp2_with fail
                        go_loop [4] (fun c => ∃ k : Nat, (e + 1) ≤ k ∧ k ≤ n ∧ c = .int .i64 k ∧ Hid (dEnd f n k = fe)) (fun c => n - (intOf c).toNat)
                        case atStart => exact ⟨(e + 1), Nat.le_refl _, by omega, by go_num, HE2⟩
                        case round =>
                          obtain ⟨k, hk, hkn, rfl, hd⟩ := hrel
                          by_cases hlt : k < n
                          · obtain ⟨x, hx⟩ : ∃ x, x = f k := ⟨_, rfl⟩
                            have hcx : w.cell? ⟨b, off + k, none⟩ = some (.int .u8 x) := by rw [hx]; exact HC.out k hlt
                            cases hy : decide (48 ≤ x)
                            · have HE2 : Hid (fe = k) := by show _ = _; rw [← hd.out]; exact dEnd_no (by rw [← hx]; exact dig_no1 hy)
                              clear hx hd
                              go_wp2_with fail
                              go_meet
                              case rel => exact ⟨by rw [HE2.out], rfl⟩
                            · cases hy2 : decide (x ≤ 57)
                              · have HE2 : Hid (fe = k) := by show _ = _; rw [← hd.out]; exact dEnd_no (by rw [← hx]; exact dig_no2 hy2)
                                clear hx hd
                                go_wp2_with fail
                                go_meet
                                case rel => exact ⟨by rw [HE2.out], rfl⟩
                              · have HE2 : Hid (dEnd f n (k + 1) = fe) := by rw [← hd.out]; exact (dEnd_yes hlt (by rw [← hx]; exact dig_yes hy hy2)).symm
                                clear hx hd
                                go_wp2_with fail
                                go_round
                                case rel => exact ⟨k + 1, by omega, by omega, by go_num, HE2⟩
                                case measure => simp [intOf]; omega
                          · have HE2 : Hid (fe = k) := by show _ = _; rw [← hd.out]; exact dEnd_stop (by omega)
                            clear hd
                            have hlt' : decide ((k : Int) < n) = false := by simp; omega
                            go_wp2_with fail
                            go_meet
                            case rel => exact ⟨by rw [HE2.out], rfl⟩
                      case rest =>
                        obtain ⟨rfl, rfl⟩ := hcut
                        go_wp2_with fail
                        go_meet
                        case rel => exact ⟨rfl, rfl, rfl⟩
                    · subst h'
                      go_wp2_with fail
                      go_meet
                      case rel => exact ⟨rfl, rfl, rfl⟩
                case rest =>
                  obtain ⟨rfl, rfl, rfl⟩ := hcut
                  clear HV HE2 hge2 hle2
                  obtain ⟨sb2, HS, HSB⟩ : ∃ sb : Bool, Hid ((¬ fe < n ∧ sb = false) ∨ (fe < n ∧ ∃ x, w.cell? ⟨b, off + fe, none⟩ = some (.int .u8 x) ∧ (((x == 101) = true ∧ sb = true) ∨ ((x == 101) = false ∧ (x == 69) = sb)))) ∧ Hid ((sb = true ∧ fe < n ∧ (f fe = 101 ∨ f fe = 69)) ∨ (sb = false ∧ ¬ (fe < n ∧ (f fe = 101 ∨ f fe = 69)))) := by
                    by_cases ha : fe < n
                    · by_cases hb1 : f fe = 101
                      · exact ⟨true, .inr ⟨ha, f fe, HC.out fe ha, .inl ⟨by rw [hb1]; rfl, rfl⟩⟩, .inl ⟨rfl, ha, .inl hb1⟩⟩
                      · refine ⟨f fe == 69, .inr ⟨ha, f fe, HC.out fe ha, .inr ⟨by simpa using hb1, rfl⟩⟩, ?_⟩
                        show _ ∨ _
                        by_cases hb2 : f fe = 69
                        · left; exact ⟨by rw [hb2]; rfl, ha, .inr hb2⟩
                        · right; exact ⟨by simpa using hb2, fun h => h.2.elim hb1 hb2⟩
                    · exact ⟨false, .inl ⟨ha, rfl⟩, .inr ⟨rfl, fun h => ha h.1⟩⟩
                  go_upto_region 24 with fail
                  go_cut [135] (fun s wx => s = .bool sb2 ∧ wx = w.alloc Z4)
                  case first =>
                    as_aux_lemma =>
                      clear HSB
                      rcases HS.out with ⟨h, rfl⟩ | ⟨h, x, hcx, ⟨h', rfl⟩ | ⟨h', h''⟩⟩
                      · have hd : decide ((fe : Int) < (n : Int)) = false := by simp; omega
                        go_wp2_with fail
                        go_meet
                        case rel => exact ⟨rfl, rfl⟩
                      · have hd : (fe : Int) < (n : Int) := by omega
                        go_wp2_with fail
                        go_meet
                        case rel => exact ⟨rfl, rfl⟩
                      · have hd : (fe : Int) < (n : Int) := by omega
                        clear HS
                        go_wp2_with fail
                        go_meet
                        case rel => exact ⟨rfl, rfl⟩
                  case rest =>
                    obtain ⟨rfl, rfl⟩ := hcut
                    clear HS
                    rcases HSB.out with ⟨rfl, h8⟩ | ⟨rfl, h8⟩
                    case inr =>
                      have HNN : Hid (number f n i0 = some (e, fe, fe)) := number_some HI.out HE.out H1.out H2.out HF.out (expo_not h8)
                      clear h8 HSB
                      by_cases hz : fe = n
                      · have HN : Hid (whole f n = some (e, fe, fe)) := by show _ = _; rw [whole_eq, ← HI0.out, hz]; exact wholeAt_some (by rw [HNN.out, hz])
                        have hq9 : ((fe : Int) != (n : Int)) = false := by rw [hz]; simp
                        clear hz
                        go_wp2_with fail
                        exact bodyPost_ret (v := .tuple #[num4 i0 e fe fe, .bool true]) (by simp [results, Ybaf.results16, go_sem]) rfl ⟨by rw [HN.out, ← HI0.out]; rfl, (Below.refl _ w).alloc (Nat.le_refl _) _⟩
                      · have HN : Hid (whole f n = none) := by show _ = _; rw [whole_eq, ← HI0.out]; exact wholeAt_not HNN.out hz
                        have hq9 : ((fe : Int) != (n : Int)) = true := by rw [bne_iff_ne]; omega
                        clear hz
                        go_wp2_with fail
                        exact bodyPost_ret (v := .tuple #[z4, .bool false]) (by simp [results, Ybaf.results16, go_sem]) rfl ⟨by rw [HN.out]; exact ⟨0, 0, 0, 0, rfl⟩, (Below.refl _ w).alloc (Nat.le_refl _) _⟩
                    case inl =>
                      have H8 : Hid (fe < n ∧ (f fe = 101 ∨ f fe = 69)) := h8
                      have hfn2 : fe < n := h8.1
                      clear h8 HSB
                      obtain ⟨x, hx⟩ : ∃ x, x = xsgn f n (fe + 1) := ⟨_, rfl⟩
                      have HX : Hid _ := hx
                      have hxle : x ≤ n := by rw [hx]; exact xsgn_le (by omega)
                      obtain ⟨sb, HV, HY⟩ : ∃ sb : Bool, Hid ((¬ fe + 1 < n ∧ sb = false) ∨ (fe + 1 < n ∧ ((f (fe + 1) = 43 ∧ sb = true) ∨ (f (fe + 1) = 45 ∧ sb = true) ∨ (f (fe + 1) ≠ 43 ∧ f (fe + 1) ≠ 45 ∧ sb = false)))) ∧ Hid ((sb = true ∧ x = fe + 1 + 1) ∨ (sb = false ∧ x = fe + 1)) := by
                        rw [hx]
                        unfold xsgn
                        by_cases ha : fe + 1 < n
                        · by_cases hb1 : f (fe + 1) = 43
                          · exact ⟨true, .inr ⟨ha, .inl ⟨hb1, rfl⟩⟩, .inl ⟨rfl, by simp [ha, hb1]⟩⟩
                          · by_cases hb2 : f (fe + 1) = 45
                            · exact ⟨true, .inr ⟨ha, .inr (.inl ⟨hb2, rfl⟩)⟩, .inl ⟨rfl, by simp [ha, hb2]⟩⟩
                            · exact ⟨false, .inr ⟨ha, .inr (.inr ⟨hb1, hb2, rfl⟩)⟩, .inr ⟨rfl, by simp [hb1, hb2]⟩⟩
                        · exact ⟨false, .inl ⟨ha, rfl⟩, .inr ⟨rfl, by simp [ha]⟩⟩
                      clear hx
                      go_upto_region 26 with fail
                      go_cut [4, 155] (fun s1 s wx => s1 = .int .i64 ((fe + 1 : Nat) : Int) ∧ s = .bool sb ∧ wx = w.alloc Z4)
                      case first =>
                        as_aux_lemma =>
                          clear HY
                          rcases HV.out with ⟨ha, rfl⟩ | ⟨ha, hz⟩
                          · have hl : decide ((fe : Int) + 1 < (n : Int)) = false := by simp; omega
                            clear ha
                            go_wp2_with fail
                            go_meet
                            case rel => exact ⟨by go_num, rfl, rfl⟩
                          · obtain ⟨xg, hxg⟩ : ∃ x, x = f (fe + 1) := ⟨_, rfl⟩
                            have hcg : w.cell? ⟨b, off + (fe + 1), none⟩ = some (.int .u8 xg) := by rw [hxg]; exact HC.out (fe + 1) ha
                            have hl : (fe : Int) + 1 < (n : Int) := by omega
                            clear ha
                            rcases hz with ⟨h, rfl⟩ | ⟨h, rfl⟩ | ⟨h, h', rfl⟩
                            · have hq : (xg == 43) = true := by rw [hxg, h]; rfl
                              clear h hxg
                              go_wp2_with fail
                              go_meet
                              case rel => exact ⟨by go_num, rfl, rfl⟩
                            · have hq : (xg == 43) = false := by rw [hxg, h]; rfl
                              have hq' : (xg == 45) = true := by rw [hxg, h]; rfl
                              clear h hxg
                              go_wp2_with fail
                              go_meet
                              case rel => exact ⟨by go_num, rfl, rfl⟩
                            · have hq : (xg == 43) = false := by rw [hxg]; simpa using h
                              have hq' : (xg == 45) = false := by rw [hxg]; simpa using h'
                              clear h h' hxg
                              go_wp2_with fail
                              go_meet
                              case rel => exact ⟨by go_num, rfl, rfl⟩
                      case rest =>
                        obtain ⟨rfl, rfl, rfl⟩ := hcut
                        clear HV
                        go_upto_if 155 with fail
                        go_cut [4] (fun s wx => s = .int .i64 (x : Int) ∧ wx = w.alloc Z4)
                        case first =>
                          as_aux_lemma =>
                            rcases HY.out with ⟨rfl, h⟩ | ⟨rfl, h⟩
                            · have HE1 : Hid _ := h
                              clear h
                              go_wp2_with fail
                              go_meet
                              case rel => exact ⟨by rw [HE1.out]; go_num, rfl⟩
                            · have HE1 : Hid _ := h
                              clear h
                              go_wp2_with fail
                              go_meet
                              case rel => exact ⟨by rw [HE1.out]; go_num, rfl⟩
                        case rest =>
                          obtain ⟨rfl, rfl⟩ := hcut
                          clear HY
                          obtain ⟨z, hz⟩ : ∃ z, dEnd f n x = z := ⟨_, rfl⟩
                          have HZ : Hid (dEnd f n x = z) := hz
                          have hzle : z ≤ n := by rw [← hz]; exact dEnd_le hxle
                          clear hz
                          go_upto_block 4 with fail
                          go_cut [4] (fun s wx => s = .int .i64 (z : Int) ∧ wx = w.alloc Z4)
                          case first =>
                            as_aux_lemma =>
                              go_wp2_with fail
                              go_loop [4] (fun c => ∃ k : Nat, x ≤ k ∧ k ≤ n ∧ c = .int .i64 k ∧ Hid (dEnd f n k = z)) (fun c => n - (intOf c).toNat)
                              case atStart => exact ⟨x, Nat.le_refl _, hxle, by rfl, HZ⟩
                              case round =>
                                obtain ⟨k, hk, hkn, rfl, hd⟩ := hrel
                                by_cases hlt : k < n
                                · obtain ⟨x, hx⟩ : ∃ x, x = f k := ⟨_, rfl⟩
                                  have hcx : w.cell? ⟨b, off + k, none⟩ = some (.int .u8 x) := by rw [hx]; exact HC.out k hlt
                                  cases hy : decide (48 ≤ x)
                                  · have HE2 : Hid (z = k) := by show _ = _; rw [← hd.out]; exact dEnd_no (by rw [← hx]; exact dig_no1 hy)
                                    clear hx hd
                                    go_wp2_with fail
                                    go_meet
                                    case rel => exact ⟨by rw [HE2.out], rfl⟩
                                  · cases hy2 : decide (x ≤ 57)
                                    · have HE2 : Hid (z = k) := by show _ = _; rw [← hd.out]; exact dEnd_no (by rw [← hx]; exact dig_no2 hy2)
                                      clear hx hd
                                      go_wp2_with fail
                                      go_meet
                                      case rel => exact ⟨by rw [HE2.out], rfl⟩
                                    · have HE2 : Hid (dEnd f n (k + 1) = z) := by rw [← hd.out]; exact (dEnd_yes hlt (by rw [← hx]; exact dig_yes hy hy2)).symm
                                      clear hx hd
                                      go_wp2_with fail
                                      go_round
                                      case rel => exact ⟨k + 1, by omega, by omega, by go_num, HE2⟩
                                      case measure => simp [intOf]; omega
                                · have HE2 : Hid (z = k) := by show _ = _; rw [← hd.out]; exact dEnd_stop (by omega)
                                  clear hd
                                  have hlt' : decide ((k : Int) < n) = false := by simp; omega
                                  go_wp2_with fail
                                  go_meet
                                  case rel => exact ⟨by rw [HE2.out], rfl⟩
                          case rest =>
                            obtain ⟨rfl, rfl⟩ := hcut
                            by_cases h9 : z = x
                            · have HN : Hid (whole f n = none) := by show _ = _; rw [whole_eq, ← HI0.out]; exact wholeAt_none (number_noexp HI.out HE.out H1.out H2.out HF.out (expo_bad H8.out HX.out (by rw [HZ.out, h9])))
                              have hq : ((z : Int) == (x : Int)) = true := by rw [h9]; simp
                              clear h9
                              go_wp2_with fail
                              exact bodyPost_ret (v := .tuple #[z4, .bool false]) (by simp [results, Ybaf.results16, go_sem]) rfl ⟨by rw [HN.out]; exact ⟨0, 0, 0, 0, rfl⟩, (Below.refl _ w).alloc (Nat.le_refl _) _⟩
                            have HNN : Hid (number f n i0 = some (e, fe, z)) := number_some HI.out HE.out H1.out H2.out HF.out (expo_yes H8.out HX.out HZ.out h9)
                            have hqx : ((z : Int) == (x : Int)) = false := by simp; omega
                            clear h9
                            by_cases hz : z = n
                            · have HN : Hid (whole f n = some (e, fe, z)) := by show _ = _; rw [whole_eq, ← HI0.out, hz]; exact wholeAt_some (by rw [HNN.out, hz])
                              have hq9 : ((z : Int) != (n : Int)) = false := by rw [hz]; simp
                              clear hz
                              go_wp2_with fail
                              exact bodyPost_ret (v := .tuple #[num4 i0 e fe z, .bool true]) (by simp [results, Ybaf.results16, go_sem]) rfl ⟨by rw [HN.out, ← HI0.out]; rfl, (Below.refl _ w).alloc (Nat.le_refl _) _⟩
                            · have HN : Hid (whole f n = none) := by show _ = _; rw [whole_eq, ← HI0.out]; exact wholeAt_not HNN.out hz
                              have hq9 : ((z : Int) != (n : Int)) = true := by rw [bne_iff_ne]; omega
                              clear hz
                              go_wp2_with fail
                              exact bodyPost_ret (v := .tuple #[z4, .bool false]) (by simp [results, Ybaf.results16, go_sem]) rfl ⟨by rw [HN.out]; exact ⟨0, 0, 0, 0, rfl⟩, (Below.refl _ w).alloc (Nat.le_refl _) _⟩

set_option maxHeartbeats 4000000 in
set_option maxRecDepth 100000 in
theorem model_nil (p : Option Addr) (cap : Nat) (f : Nat → Int) (w : World) :
    Calls Ybaf.prog 16 #[.slice p 0 cap] w fun e w' => Parsed (whole f 0) (plus f 0) e ∧ Below w.heap.size w w' := by
  have HN : Hid (whole f 0 = none) := wholeAt_end f 0
  go_enter Ybaf.func16, Ybaf.ntmps16
  go_wp2_with fail
  go_loop [4] (fun c => c = .int .i64 0) (fun _ => 0)
  case atStart => rfl
  case round =>
    obtain rfl := hrel
    go_wp2_with fail
    exact bodyPost_ret (v := .tuple #[z4, .bool false]) (by simp [results, Ybaf.results16, go_sem]) rfl ⟨by rw [HN.out]; exact ⟨0, 0, 0, 0, rfl⟩, (Below.refl _ w).alloc (Nat.le_refl _) _⟩

/-- A text of n bytes lies there. -/
def Txt (w : World) (p : Option Addr) (n : Nat) (f : Nat → Int) : Prop :=
  n = 0 ∨ ∃ b off, p = some ⟨b, off, none⟩ ∧ b < w.heap.size ∧ ∀ k, k < n → w.cell? ⟨b, off + k, none⟩ = some (.int .u8 (f k))
theorem Txt.later {w w' : World} {p : Option Addr} {n : Nat} {f : Nat → Int} (h : Txt w p n f) (hb : Below w.heap.size w w') : Txt w' p n f := by
  rcases h with h | ⟨b, off, hp, hlt, hc⟩
  · exact .inl h
  · exact .inr ⟨b, off, hp, Nat.lt_of_lt_of_le hlt hb.size, fun k hk => cell_later hb (hc k hk)⟩

theorem text_any (p : Option Addr) (n cap : Nat) (f : Nat → Int) (hn : n ≤ 100000) (w : World) (ht : Txt w p n f) :
    Calls Ybaf.prog 10 #[.slice p n cap] w fun e w' => Parsed (whole f n) (plus f n) e ∧ Below w.heap.size w w' := by
  by_cases h0 : n = 0
  · subst h0; exact text_nil p cap f w
  · rcases ht with h | ⟨b, off, rfl, hlt, hc⟩
    · exact absurd h h0
    · exact text_in b off n cap f (by omega) hn w hlt hc
theorem model_any (p : Option Addr) (n cap : Nat) (f : Nat → Int) (hn : n ≤ 100000) (w : World) (ht : Txt w p n f) :
    Calls Ybaf.prog 16 #[.slice p n cap] w fun e w' => Parsed (whole f n) (plus f n) e ∧ Below w.heap.size w w' := by
  by_cases h0 : n = 0
  · subst h0; exact model_nil p cap f w
  · rcases ht with h | ⟨b, off, rfl, hlt, hc⟩
    · exact absurd h h0
    · exact model_in b off n cap f (by omega) hn w hlt hc

end Go.Proofs.YbulkbvicFmt

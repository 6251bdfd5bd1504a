/-
  Seat b3590aF: the walk of LawS3590BFirstWins.
-/
import Derived.Test.YbulkbvicFmtQ
import Derived.Deep.CutBlock
import Derived.BigQuiet
namespace Go.Proofs.YbulkbvicFmt
open Go.RowKit Go.Extern.Stop Go.Stop Go.Extern Go.Maps

theorem Ybaf.info9 : (Ybaf.prog.info? 9).map (fun i => (i.zero, i.size, i.bytes)) = some (some (.string ⟨#[]⟩), 1, 16) := by kernel_rfl
theorem Ybaf.info49 : (Ybaf.prog.info? 49).map (fun i => (i.zero, i.size, i.bytes)) = some (some (posV 0 0), 2, 16) := by kernel_rfl

/-- The script, as it came in. -/
def Steps (w : World) (p : Option Addr) (n : Nat) (key line col : Nat → Int) : Prop :=
  n = 0 ∨ ∃ b off, p = some ⟨b, off, none⟩ ∧ b < w.heap.size ∧ ∀ k, k < n → w.cell? ⟨b, off + k * 3, none⟩ = some (.int .u8 (key k)) ∧ w.cell? ⟨b, off + k * 3 + 1, none⟩ = some (.int .i64 (line k)) ∧ w.cell? ⟨b, off + k * 3 + 2, none⟩ = some (.int .i64 (col k))

/-- Between two steps, whatever the lists. -/
def Inv (w : World) (i : Nat) (v5 v6 v7 : Value) (wr : World) : Prop :=
  ∃ NS PS p5 c5 p6 c6 fp fc m n D, v5 = .slice p5 (List.length NS) c5 ∧ v6 = .slice p6 (List.length PS) c6 ∧ v7 = .int .i64 ((m : Nat) : Int) ∧
    Mem w.heap.size w.heap.size (w.heap.size + 1) (w.heap.size + 1 + 1) NS PS p5 c5 p6 c6 fp fc m n D wr ∧ Dat NS PS D ∧ n ≤ i ∧ NS.length ≤ i ∧ m ≤ i ∧ Below w.heap.size w wr

theorem Inv.start (w : World) : Inv w 0 (.slice none 0 0) (.slice none 0 0) (.int .i64 0) (((w.alloc (.cells #[.string ⟨#[102]⟩, .int .i64 (-9223372036854775808), .int .i64 0] 32)).alloc (.cells #[.slice (some ⟨w.heap.size, 0, none⟩) 1 1, .slice none 0 0, .pointer none, .map none] 42)).alloc (.map #[] 0)) := by
  refine ⟨[], [], none, 0, none, 0, none, 0, 0, 0, .map [], rfl, rfl, rfl, ⟨?_, ⟨[.slice (some ⟨w.heap.size, 0, none⟩) 1 1, .slice none 0 0, .pointer none, .map none], ?_, rfl, rfl⟩, ⟨[], rfl, .inl ⟨rfl, rfl⟩⟩, ⟨rfl, .inl ⟨rfl, rfl⟩⟩, ⟨rfl, .inl ⟨rfl, rfl⟩⟩, ?_, by omega, by omega, by omega⟩, Dat.start, Nat.le_refl _, Nat.le_refl _, Nat.le_refl _, ?_⟩
  · show (((w.heap.push _).push _).push _)[w.heap.size]? = _
    rw [Array.getElem?_push, if_neg (by simp; omega), Array.getElem?_push, if_neg (by simp), Array.getElem?_push, if_pos (by simp)]
  · show (((w.heap.push _).push _).push _)[w.heap.size + 1]? = _
    rw [Array.getElem?_push, if_neg (by simp), Array.getElem?_push, if_pos (by simp)]
  · have h := World.ownsMap_made (H := Unit) ((w.alloc (.cells #[.string ⟨#[102]⟩, .int .i64 (-9223372036854775808), .int .i64 0] 32)).alloc (.cells #[.slice (some ⟨w.heap.size, 0, none⟩) 1 1, .slice none 0 0, .pointer none, .map none] 42)) Ybaf.prog 9 posElem
    simpa using h
  · exact (((Below.refl _ w).alloc (Nat.le_refl _) _).alloc (by simp) _).alloc (by simp; omega) _

theorem toList_ne {s t : ByteArray} (h : s ≠ t) : (s.toList == t.toList) = false := by
  rw [ByteArray.toList_eq, ByteArray.toList_eq, beq_eq_false_iff_ne]
  intro e
  apply h
  cases s; cases t
  simp only [ByteArray.mk.injEq]
  exact Array.toList_inj.1 e

theorem belowN {B : Nat} {w W : World} (h : Below B w W) (k : Nat) : Below B w (W.drewN k) := ⟨h.os, h.tape, h.output, h.size, h.block⟩
theorem Mem.drewM {B lb rb mb : Nat} {NS : List ByteArray} {PS : List (Int × Int)} {p5 : Option Addr} {c5 : Nat} {p6 : Option Addr} {c6 : Nat} {fp : Option Addr} {fc m n : Nat} {D : DataW Unit} {W : World} (h : Mem B lb rb mb NS PS p5 c5 p6 c6 fp fc m n D W) (k : Nat) : Mem B lb rb mb NS PS p5 c5 p6 c6 fp fc m n D (W.drewN k) :=
  ⟨h.tab, h.res, h.fnd, h.nms, h.fst, h.map, h.base⟩
theorem Mem.tabAt {B lb rb mb : Nat} {NS : List ByteArray} {PS : List (Int × Int)} {p5 : Option Addr} {c5 : Nat} {p6 : Option Addr} {c6 : Nat} {fp : Option Addr} {fc m n : Nat} {D : DataW Unit} {W : World} (h : Mem B lb rb mb NS PS p5 c5 p6 c6 fp fc m n D W) : Tab W lb := by
  have := h.tab
  refine ⟨?_, ?_, ?_⟩ <;> simp [World.cell?, this]
theorem Mem.foundAt {B lb rb mb : Nat} {NS : List ByteArray} {PS : List (Int × Int)} {p5 : Option Addr} {c5 : Nat} {p6 : Option Addr} {c6 : Nat} {fp : Option Addr} {fc m n : Nat} {D : DataW Unit} {W : World} (h : Mem B lb rb mb NS PS p5 c5 p6 c6 fp fc m n D W) : W.cell? ⟨rb, 1, none⟩ = some (.slice fp m fc) := by
  obtain ⟨cs, r1, _, r3⟩ := h.res
  simp [World.cell?, r1, r3]
/-- A new block of positions is none of a map's, of a row of strings. -/
theorem pos_kept {W W' : World} {p : Nat} {l c : Int} {L : List Nat} (h : W.heap[p]? = some (.cells #[.int .i64 l, .int .i64 c] 49 (0, 0))) (hk : Kept L W W') (hL : p ∉ L) : W'.heap[p]? = some (.cells #[.int .i64 l, .int .i64 c] 49 (0, 0)) :=
  (hk.block p (Array.getElem?_eq_some_iff.1 h).1 hL).trans h

theorem two_news {a b u : Value} {j : Nat} (h : [a, b][j]? = some u) : (j = 0 ∧ u = a) ∨ (j = 1 ∧ u = b) := by
  cases j with
  | zero => exact .inl ⟨rfl, by simpa using h.symm⟩
  | succ n => cases n with
    | zero => exact .inr ⟨rfl, by simpa using h.symm⟩
    | succ n => simp at h

/-- A cell of a block that is none of L's. -/
theorem two_cells {W : World} {p : Nat} {l c : Int} (h : W.heap[p]? = some (.cells #[.int .i64 l, .int .i64 c] 49 (0, 0))) : W.cell? ⟨p, 0, none⟩ = some (.int .i64 l) ∧ W.cell? ⟨p, 1, none⟩ = some (.int .i64 c) := by
  constructor <;> simp [World.cell?, h]

set_option maxHeartbeats 8000000 in
set_option maxRecDepth 100000 in
theorem first_in (p : Option Addr) (n cap : Nat) (key line col : Nat → Int) (hk : ∀ k, k < n → 0 ≤ key k ∧ key k ≤ 255) (hl : ∀ k, k < n → -9223372036854775808 ≤ line k) (hn : n ≤ 1024) (w : World) (hs : Steps w p n key line col) :
    Calls Ybaf.prog 6 #[.slice p n cap] w fun e w' => e = .returned (.bool true) ∧ Below w.heap.size w w' := by
  have hmm := @run_makeMap Ybaf.prog
  obtain ⟨i9, hi9, hz9⟩ := Option.map_eq_some_iff.1 Ybaf.info9
  obtain ⟨i49, hi49, hz49⟩ := Option.map_eq_some_iff.1 Ybaf.info49
  simp only [Prod.mk.injEq] at hz9 hz49
  have HI9 : Hid _ := hz9
  have HI49 : Hid _ := hz49
  have HK : Hid (∀ k, k < n → 0 ≤ key k ∧ key k ≤ 255) := hk
  have HLN : Hid (∀ k, k < n → -9223372036854775808 ≤ line k) := hl
  have HST : Hid (Steps w p n key line col) := hs
  clear hk hl hs hz9 hz49
  have HI0 : Hid _ := Inv.start w
  have hl1024 : ¬ (1024 : Int) < n := by omega
  go_enter Ybaf.func6, Ybaf.ntmps6
  go_wp2_with fail
  go_loopw [30, 5, 6, 7] (fun c30 v5 v6 v7 wr => ∃ i : Nat, i ≤ n ∧ c30 = .int .i64 i ∧ Hid (Inv w i v5 v6 v7 wr)) (fun c _ _ _ _ => n - (intOf c).toNat)
  case atStart => exact ⟨0, Nat.zero_le _, rfl, HI0⟩
  case round =>
    obtain ⟨i, hin, rfl, HI⟩ := hrel
    clear HI0 hmm
    obtain ⟨NS, PS, p5, c5, p6, c6, fp, fc, m, nn, D, rfl, rfl, rfl, hmem, hdat, hni, hki, hmi, hbel⟩ := HI.out
    clear HI
    have HM : Hid (Mem w.heap.size w.heap.size (w.heap.size + 1) (w.heap.size + 1 + 1) NS PS p5 c5 p6 c6 fp fc m nn D wr) := hmem
    have HD : Hid (Dat NS PS D) := hdat
    have HB : Hid (Below w.heap.size w wr) := hbel
    clear hmem hdat hbel
    obtain ⟨W0, rfl⟩ : ∃ W, W = wr := ⟨_, rfl⟩
    by_cases hlt : i < n
    case neg =>
      have hlt' : decide ((i : Int) < n) = false := by simp; omega
      go_wp2_with fail
      go_ret
      exact ⟨rfl, HB.out⟩
    case pos =>
    have hlt' : (i : Int) < n := by omega
    rcases HST.out with h | ⟨b, off, rfl, hbl, hc⟩
    · omega
    obtain ⟨x, hx⟩ : ∃ x, x = key i := ⟨_, rfl⟩
    obtain ⟨l, hle⟩ : ∃ l, l = line i := ⟨_, rfl⟩
    obtain ⟨c, hce⟩ : ∃ c, c = col i := ⟨_, rfl⟩
    obtain ⟨g1, g2, g3⟩ := hc i hlt
    have hcx : W0.cell? ⟨b, off + i * 3, none⟩ = some (.int .u8 x) := by rw [hx]; exact cell_later HB.out g1
    have hcl : W0.cell? ⟨b, off + i * 3 + 1, none⟩ = some (.int .i64 l) := by rw [hle]; exact cell_later HB.out g2
    have hcc : W0.cell? ⟨b, off + i * 3 + 2, none⟩ = some (.int .i64 c) := by rw [hce]; exact cell_later HB.out g3
    have hx0 : 0 ≤ x ∧ x ≤ 255 := by rw [hx]; exact HK.out i hlt
    have hl0 : -9223372036854775808 ≤ l := by rw [hle]; exact HLN.out i hlt
    obtain ⟨s, hsx⟩ : ∃ s, s = nm x := ⟨_, rfl⟩
    have hsz : s.size ≤ maxLen := by rw [hsx]; exact nm_size x
    have HNA : Hid _ := fun (W : World) => name_any x hx0 W
    rw [← hsx] at HNA
    clear g1 g2 g3 hx hle hce hc hsx
    obtain ⟨W2, hW2⟩ : ∃ W2, W2 = (W0.alloc (.cells #[.int .u8 x, .int .i64 l, .int .i64 c] 46)).alloc (.cells #[.int .i64 l, .int .i64 c] 49) := ⟨_, rfl⟩
    have hb2 : Below W0.heap.size W0 W2 := by rw [hW2]; exact ((Below.refl _ W0).alloc (Nat.le_refl _) _).alloc (by simp) _
    have HP2 : Hid (W2.heap[W0.heap.size + 1]? = some (.cells #[.int .i64 l, .int .i64 c] 49 (0, 0))) := by
      rw [hW2]
      show ((W0.heap.push _).push _)[W0.heap.size + 1]? = _
      rw [Array.getElem?_push, if_pos (by simp)]
    have HM2 : Hid (Mem w.heap.size w.heap.size (w.heap.size + 1) (w.heap.size + 1 + 1) NS PS p5 c5 p6 c6 fp fc m nn D W2) := HM.out.below hb2
    have HB2 : Hid (Below w.heap.size w W2) := HB.out.trans (hb2.mono HB.out.size)
    clear hb2
    go_upto_block 2 with (go_at_call 11; refine (HNA.out _).mono ?_; rintro r w' ⟨rfl, rfl⟩)
    rw [← hW2]
    clear hW2 hcx hcl hcc HNA HM HB
    go_cut [12] (fun s12 wx => (∃ at_ : Int, s12 = .int .i64 at_ ∧ ((at_ = -1 ∧ s ∉ NS) ∨ ∃ j : Nat, j < NS.length ∧ at_ = (j : Int) ∧ NS.getD j ⟨#[]⟩ = s)) ∧ wx = W2)
    case first =>
      as_aux_lemma =>
        go_wp2_with fail
        go_loop [12, 44] (fun c12 cc => c12 = .int .i64 (-1) ∧ ∃ j : Nat, j ≤ NS.length ∧ cc = .int .i64 j ∧ Hid (∀ a, a < j → NS.getD a ⟨#[]⟩ ≠ s)) (fun _ cc => NS.length - (intOf cc).toNat)
        case atStart => exact ⟨rfl, 0, Nat.zero_le _, rfl, fun a ha => absurd ha (Nat.not_lt_zero a)⟩
        case round =>
          obtain ⟨rfl, j, hj, rfl, HNO⟩ := hrel
          by_cases hjl : j < NS.length
          · have hjl' : (j : Int) < NS.length := by omega
            obtain ⟨g5, rfl⟩ := own_form HM2.out.nms (by omega)
            obtain ⟨t, ht⟩ : ∃ t, t = NS.getD j ⟨#[]⟩ := ⟨_, rfl⟩
            have hct : W2.cell? ⟨g5, j, none⟩ = some (.string t) := own_cell HM2.out.nms (by rw [ht]; simp [strs, List.getD_eq_getElem?_getD, hjl])
            by_cases hts : t = s
            · have hq : (t.toList == s.toList) = true := by rw [hts]; simp
              have HTS : Hid (NS.getD j ⟨#[]⟩ = s) := by rw [← ht]; exact hts
              clear hts ht
              go_wp2_with fail
              go_meet
              case rel => exact ⟨⟨(j : Int), rfl, .inr ⟨j, hjl, rfl, HTS.out⟩⟩, rfl⟩
            · have hq : (t.toList == s.toList) = false := toList_ne hts
              have HN2 : Hid (∀ a, a < j + 1 → NS.getD a ⟨#[]⟩ ≠ s) := by
                intro a ha
                by_cases e : a = j
                · subst e; rw [← ht]; exact hts
                · exact HNO.out a (by omega)
              clear hts ht
              go_wp2_with fail
              go_round
              case rel => exact ⟨rfl, j + 1, by omega, by go_num, HN2⟩
              case measure => simp [intOf]; omega
          · have hjl' : decide ((j : Int) < NS.length) = false := by simp; omega
            have HNO2 : Hid (s ∉ NS) := by
              intro hmem
              obtain ⟨a, ha, hae⟩ := List.getElem_of_mem hmem
              exact HNO.out a (by omega) (by rw [List.getD_eq_getElem?_getD, List.getElem?_eq_getElem ha]; exact hae)
            go_wp2_with fail
            go_meet
            case rel => exact ⟨⟨-1, rfl, .inl ⟨rfl, HNO2.out⟩⟩, rfl⟩
    case rest =>
      obtain ⟨⟨at_, rfl, hat⟩, rfl⟩ := hcut
      obtain ⟨W2, rfl⟩ : ∃ W, W = wc := ⟨_, rfl⟩
      rcases hat with ⟨rfl, hno⟩ | ⟨j0, hj0, rfl, hj0s⟩
      · -- a first declaration
        have HNO : Hid (s ∉ NS) := hno
        clear hno
        have HDN : Hid _ := fun (_ : Unit) => declare_new (w.heap.size + 1) (w.heap.size + 1 + 1) nn D s whF l c W2 (by omega) hsz HM2.out.map 0 0 (HD.out.no s HNO.out).2 (HD.out.no s HNO.out).1
        obtain ⟨q0, q1⟩ := two_cells HP2.out
        have HLEN : Hid (PS.length = NS.length) := HD.out.len
        go_upto_region 24 with (go_at_call 12; refine (HDN.out ()).mono ?_; rintro r W3 ⟨rfl, ho3, hk3⟩)
        have HM3 : Hid (Mem w.heap.size w.heap.size (w.heap.size + 1) (w.heap.size + 1 + 1) NS PS p5 c5 p6 c6 fp fc m (nn + 1) (D.put (.string s.data.toList) (posD l c)) W3) := HM2.out.declared hk3 ho3
        have HB3 : Hid (Below w.heap.size w W3) := below_kept HB2.out hk3 (by simp; omega) HB2.out.size
        have HP3 : Hid (W3.heap[W0.heap.size + 1]? = some (.cells #[.int .i64 l, .int .i64 c] 49 (0, 0))) := pos_kept HP2.out hk3 (fun hmem => by
          obtain ⟨es, clock, hmm, _⟩ := HM2.out.map
          simp only [List.mem_singleton] at hmem
          rw [← hmem, HP2.out] at hmm
          simp at hmm)
        have HD3 : Hid (Dat (NS ++ [s]) (PS ++ [(l, c)]) (D.put (.string s.data.toList) (posD l c))) := HD.out.next HM2.out.map HNO.out hsz hl0
        clear ho3 hk3 q0 q1 HDN HP2 HM2 HB2
        go_upto_region 25 with (at_builtin; refine wpList_append_lies _ rfl (.tmp 66) (.tmp 68) 43 rfl w.heap.size 9 i9 (.string ⟨#[]⟩) 1 16 Ybaf.underlying43 hi9 HI9.out.1 HI9.out.2.1 HI9.out.2.2 rfl (by decide) (.slice p5 NS.length c5) NS.length (strs NS) rfl (HM3.out.nms.alloc _) ⟨W3.heap.size, 0, none⟩ 1 1 [.string s] rfl rfl (fun j u hu => by obtain ⟨rfl, rfl⟩ := one_news hu; go_simp) (by simp [Value.oneCell']) (by decide) (by unfold maxLen; omega) (by omega) (by have := HB3.out.size; simp; omega) _ rfl ?_; intro g5 cap5 W4 hown4 hgrow4 hat4 hlt4)
        have hb3 : Below W3.heap.size W3 (W3.alloc (.cells #[.string s] 9)) := (Below.refl _ W3).alloc (Nat.le_refl _) _
        have HM4 : Hid (Mem w.heap.size w.heap.size (w.heap.size + 1) (w.heap.size + 1 + 1) (NS ++ [s]) PS (some ⟨g5, 0, none⟩) cap5 p6 c6 fp fc m (nn + 1) (D.put (.string s.data.toList) (posD l c)) W4) := (HM3.out.below hb3).named hgrow4 hown4
        have hk4 : Kept (Value.ownBlock (.slice p5 NS.length c5)).toList W3 W4 := kept_trans (kept_of_below hb3) (kept_grown hgrow4)
        have HB4 : Hid (Below w.heap.size w W4) := below_kept HB3.out hk4 (fun k hkm => (own_block HM3.out.nms (Option.mem_toList.1 hkm)).1) HB3.out.size
        have HP4 : Hid (W4.heap[W0.heap.size + 1]? = some (.cells #[.int .i64 l, .int .i64 c] 49 (0, 0))) := pos_kept HP3.out hk4 (fun hmem => by
          obtain ⟨_, cur, hcur⟩ := own_block HM3.out.nms (Option.mem_toList.1 hmem)
          rw [HP3.out] at hcur
          simp at hcur)
        obtain ⟨q0, q1⟩ := two_cells HP4.out
        clear hown4 hgrow4 hat4 hlt4 hb3 hk4 HM3 HB3 HP3
        go_upto_region 32 with (at_builtin; refine wpList_append_lies _ rfl (.tmp 70) (.tmp 72) 44 rfl w.heap.size 49 i49 (posV 0 0) 2 16 Ybaf.underlying44 hi49 HI49.out.1 HI49.out.2.1 HI49.out.2.2 rfl (by decide) (.slice p6 PS.length c6) PS.length (posCells PS) rfl (HM4.out.fst.alloc _) ⟨W4.heap.size, 0, none⟩ 1 1 [.int .i64 l, .int .i64 c] rfl rfl (fun j u hu => by rcases two_news hu with ⟨rfl, rfl⟩ | ⟨rfl, rfl⟩ <;> (simp only [Addr.add]; go_simp)) (by simp [Value.oneCell']) (by decide) (by have := HLEN.out; unfold maxLen; omega) (by have := HLEN.out; omega) (by have := HB4.out.size; simp; omega) _ rfl ?_; intro g6 cap6 W5 hown5 hgrow5 hat5 hlt5)
        have hb4 : Below W4.heap.size W4 (W4.alloc (.cells #[.int .i64 l, .int .i64 c] 49)) := (Below.refl _ W4).alloc (Nat.le_refl _) _
        have HM5 : Hid (Mem w.heap.size w.heap.size (w.heap.size + 1) (w.heap.size + 1 + 1) (NS ++ [s]) (PS ++ [(l, c)]) (some ⟨g5, 0, none⟩) cap5 (some ⟨g6, 0, none⟩) cap6 fp fc m (nn + 1) (D.put (.string s.data.toList) (posD l c)) W5) := (HM4.out.below hb4).placed hgrow5 hown5
        have HB5 : Hid (Below w.heap.size w W5) := below_kept HB4.out (kept_trans (kept_of_below hb4) (kept_grown hgrow5)) (fun k hkm => (own_block HM4.out.fst (Option.mem_toList.1 hkm)).1) HB4.out.size
        clear hown5 hgrow5 hat5 hlt5 hb4 HM4 HB4 HP4 q0 q1 HNO
        obtain ⟨D', hD'⟩ : ∃ D', D' = D.put (.string s.data.toList) (posD l c) := ⟨_, rfl⟩
        rw [← hD'] at HM5 HD3
        clear hD'
        obtain ⟨kS, hkS⟩ : ∃ kS, kS = NS.length + 1 := ⟨_, rfl⟩
        have hkP : PS.length + 1 = kS := by rw [hkS, HLEN.out]
        have HKS : Hid (kS = (NS ++ [s]).length) := by show _ = _; rw [hkS]; simp
        have hks : kS ≤ i + 1 := by omega
        rw [← hkS, hkP]
        have HKP : Hid (kS = (PS ++ [(l, c)]).length) := by show _ = _; rw [← hkP]; simp
        clear hkS hkP HD HLEN
        have hsz34 : Maps.size D' = kS := by rw [HKS.out]; exact HD3.out.size
        have hfnd : W5.cell? ⟨w.heap.size + 1, 1, none⟩ = some (.slice fp m fc) := HM5.out.foundAt
        go_wp2_with (at_len; refine wpList_len_own _ rfl _ 40 rfl 9 49 Ybaf.underlying40 posElem (w.heap.size + 1 + 1) (nn + 1) D' rfl HM5.out.map ?_)
        clear hfnd hsz34
        go_loopw [131] (fun cc wx => ∃ j : Nat, j ≤ kS ∧ cc = .int .i64 j ∧ Hid (Mem w.heap.size w.heap.size (w.heap.size + 1) (w.heap.size + 1 + 1) (NS ++ [s]) (PS ++ [(l, c)]) (some ⟨g5, 0, none⟩) cap5 (some ⟨g6, 0, none⟩) cap6 fp fc m (nn + 1) D' wx) ∧ Hid (Below w.heap.size w wx)) (fun cc _ => kS - (intOf cc).toNat)
        case atStart => exact ⟨0, Nat.zero_le _, rfl, HM5, HB5⟩
        case round =>
          obtain ⟨j, hj, rfl, HMj, HBj⟩ := hrel
          clear HM5 HB5
          by_cases hjl : j < kS
          · have hjl' : (j : Int) < kS := by omega
            have hjN : j < List.length (NS ++ [s]) := by rw [← HKS.out]; exact hjl
            obtain ⟨t, ht⟩ : ∃ t, t = List.getD (NS ++ [s]) j ⟨#[]⟩ := ⟨_, rfl⟩
            obtain ⟨a1, ha1⟩ : ∃ a1, a1 = (List.getD (PS ++ [(l, c)]) j (0, 0)).1 := ⟨_, rfl⟩
            obtain ⟨a2, ha2⟩ : ∃ a2, a2 = (List.getD (PS ++ [(l, c)]) j (0, 0)).2 := ⟨_, rfl⟩
            have hct : wr.cell? ⟨g5, j, none⟩ = some (.string t) := own_cell HMj.out.nms (by rw [ht]; simp only [strs, List.getElem?_map, List.getD_eq_getElem?_getD, List.getElem?_eq_getElem hjN]; rfl)
            have hpc := posCells_at (PS ++ [(l, c)]) j (by rw [HD3.out.len]; exact hjN)
            rw [← ha1, ← ha2] at hpc
            have hc1 : wr.cell? ⟨g6, j * 2, none⟩ = some (.int .i64 a1) := own_cell HMj.out.fst hpc.1
            have hc2 : wr.cell? ⟨g6, j * 2 + 1, none⟩ = some (.int .i64 a2) := own_cell HMj.out.fst hpc.2
            have htz : t.size ≤ maxLen := by rw [ht]; exact HD3.out.sz j hjN
            have htat : (D').atKey (.string t.data.toList) (posD 0 0) = posD a1 a2 := by rw [ht, ha1, ha2]; exact HD3.out.at_ j hjN
            have hth : Maps.has (D') (.string t.data.toList) = true := by rw [ht]; exact HD3.out.has j hjN
            have HAT : Hid _ := htat
            have HTH : Hid _ := hth
            have hg6 : g6 < wr.heap.size := lt_of_cell hc1
            have HBn : Hid (Below wr.heap.size wr (wr.alloc (.cells #[.int .i64 a1, .int .i64 a2] 49))) := (Below.refl _ wr).alloc (Nat.le_refl _) _
            clear hpc ht ha1 ha2 htat hth
            go_wp2_with (at_lookup; refine wpList_lookup_pos rfl _ _ rfl (w.heap.size + 1 + 1) (nn + 1) (D') rfl HMj.out.map t rfl htz a1 a2 HAT.out true HTH.out ?_)
            go_quiet (fail)
            go_wp2_with fail
            go_roundw
            case rel => exact ⟨j + 1, by omega, by go_num, (HMj.out.below HBn.out).drewM _, belowN (HBj.out.trans (HBn.out.mono HBj.out.size)) _⟩
            case measure => simp [intOf]; omega
          · have hjl' : decide ((j : Int) < kS) = false := by simp; omega
            go_wp2_with fail
            go_roundw
            case rel => exact ⟨i + 1, by omega, by go_num, ⟨NS ++ [s], PS ++ [(l, c)], some ⟨g5, 0, none⟩, cap5, some ⟨g6, 0, none⟩, cap6, fp, fc, m, nn + 1, D', by rw [HKS.out], by rw [HKP.out], rfl, HMj.out, HD3.out, by omega, by rw [← HKS.out]; exact hks, by omega, HBj.out⟩⟩
            case measure => simp [intOf]; omega
      · -- declared before
        have HLEN : Hid (PS.length = NS.length) := HD.out.len
        obtain ⟨g5, rfl⟩ := own_form HM2.out.nms (by omega)
        obtain ⟨g6, rfl⟩ := own_form HM2.out.fst (by rw [HLEN.out]; omega)
        obtain ⟨cs, r1, r2, r3⟩ := HM2.out.res
        obtain ⟨xs, hxs⟩ := HM2.out.fnd
        have hlf : some w.heap.size ≠ Value.ownBlock (.slice fp m fc) := fun e => by
          obtain ⟨_, cur, hcur⟩ := own_block hxs e.symm
          rw [HM2.out.tab] at hcur
          simp at hcur
        have HDO : Hid _ := fun (_ : Unit) => declare_old (w.heap.size + 1) w.heap.size (w.heap.size + 1 + 1) nn w.heap.size m D s l c (PS.getD j0 (0, 0)).1 (PS.getD j0 (0, 0)).2 (.slice fp m fc) xs cs W2 hsz HM2.out.map (by rw [← hj0s]; exact HD.out.at_ j0 hj0) (by rw [← hj0s]; exact HD.out.has j0 hj0) hl0 (HD.out.low j0 hj0) (by omega) HB2.out.size r1 r2 r3 hxs HM2.out.tabAt (by omega) hlf
        have HRR : Hid _ := And.intro r1 (And.intro r2 (And.intro r3 hxs))
        obtain ⟨q0, q1⟩ := two_cells HP2.out
        have hj0n : ¬ (j0 : Int) < 0 := by omega
        have hj0d : decide ((j0 : Int) < 0) = false := by simp
        clear r1 r2 r3 hxs hlf hj0s
        go_upto_region 26 with (go_at_call 12; refine (HDO.out ()).mono ?_; rintro r W3 ⟨rfl, he3⟩)
        obtain ⟨g, fcap, eb, sm, hm3, e1, e2, e3⟩ := HM2.out.erred HRR.out.2.1 HRR.out.2.2.1 HRR.out.1 HRR.out.2.2.2 he3
        have HM3 : Hid (Mem w.heap.size w.heap.size (w.heap.size + 1) (w.heap.size + 1 + 1) NS PS (some ⟨g5, 0, none⟩) c5 (some ⟨g6, 0, none⟩) c6 (some ⟨g, 0, none⟩) fcap (m + 1) nn D W3) := hm3
        have HB3 : Hid (Below w.heap.size w W3) := below_kept HB2.out (err_kept he3) (fun k hkm => by
          simp only [List.mem_cons] at hkm
          rcases hkm with rfl | hkm
          · omega
          · exact (own_block HRR.out.2.2.2 (Option.mem_toList.1 hkm)).1) HB2.out.size
        have HP3 : Hid (W3.heap[W0.heap.size + 1]? = some (.cells #[.int .i64 l, .int .i64 c] 49 (0, 0))) := pos_kept HP2.out (err_kept he3) (fun hmem => by
          simp only [List.mem_cons] at hmem
          rcases hmem with e | hmem
          · have := HRR.out.1
            rw [← e, HP2.out] at this
            simp at this
          · obtain ⟨_, cur, hcur⟩ := own_block HRR.out.2.2.2 (Option.mem_toList.1 hmem)
            rw [HP2.out] at hcur
            simp at hcur)
        clear he3 hm3 q0 q1 HDO HP2 HRR HM2 HB2 hj0n hj0d
        obtain ⟨q0, q1⟩ := two_cells HP3.out
        have k0 : W3.cell? ⟨eb, 0, none⟩ = some (.string ⟨#[]⟩) := by simp [World.cell?, e2]
        have k1 : W3.cell? ⟨eb, 1, none⟩ = some (.int .i64 l) := by simp [World.cell?, e2]
        have k2 : W3.cell? ⟨eb, 2, none⟩ = some (.int .i64 c) := by simp [World.cell?, e2]
        have k4 : W3.cell? ⟨eb, 4, none⟩ = some (.bool false) := by simp [World.cell?, e2]
        have hfn : W3.cell? ⟨w.heap.size + 1, 1, none⟩ = some (.slice (some ⟨g, 0, none⟩) (m + 1) fcap) := HM3.out.foundAt
        have hmq : ((((m + 1 : Nat)) : Int) != (m : Int) + 1) = false := by simp
        clear e2 e3
        go_upto_region 30 with fail
        go_quiet (fail)
        go_upto_region 32 with fail
        obtain ⟨W4, hW4⟩ : ∃ W4, W4 = W3.drewN nq := ⟨_, rfl⟩
        rw [← hW4]
        have HM4 : Hid (Mem w.heap.size w.heap.size (w.heap.size + 1) (w.heap.size + 1 + 1) NS PS (some ⟨g5, 0, none⟩) c5 (some ⟨g6, 0, none⟩) c6 (some ⟨g, 0, none⟩) fcap (m + 1) nn D W4) := by rw [hW4]; exact HM3.out.drewM _
        have HB4 : Hid (Below w.heap.size w W4) := by rw [hW4]; exact belowN HB3.out _
        clear hW4 e1 k0 k1 k2 k4 hfn q0 q1 HM3 HB3 HP3
        obtain ⟨kS, hkS⟩ : ∃ kS, kS = NS.length := ⟨_, rfl⟩
        have hkP : PS.length = kS := by rw [hkS, HLEN.out]
        have HKS : Hid (kS = List.length NS) := hkS
        have hks : kS ≤ i := by omega
        rw [← hkS, hkP]
        have HKP : Hid (kS = List.length PS) := hkP.symm
        have HJ : Hid _ := hj0
        clear hkS hkP HLEN hj0
        have hsz34 : Maps.size D = kS := by rw [HKS.out]; exact HD.out.size
        have hfnd : W4.cell? ⟨w.heap.size + 1, 1, none⟩ = some (.slice (some ⟨g, 0, none⟩) (m + 1) fcap) := HM4.out.foundAt
        go_wp2_with (at_len; refine wpList_len_own _ rfl _ 40 rfl 9 49 Ybaf.underlying40 posElem (w.heap.size + 1 + 1) nn D rfl HM4.out.map ?_)
        clear hfnd hsz34
        go_loopw [131] (fun cc wx => ∃ j : Nat, j ≤ kS ∧ cc = .int .i64 j ∧ Hid (Mem w.heap.size w.heap.size (w.heap.size + 1) (w.heap.size + 1 + 1) NS PS (some ⟨g5, 0, none⟩) c5 (some ⟨g6, 0, none⟩) c6 (some ⟨g, 0, none⟩) fcap (m + 1) nn D wx) ∧ Hid (Below w.heap.size w wx)) (fun cc _ => kS - (intOf cc).toNat)
        case atStart => exact ⟨0, Nat.zero_le _, rfl, HM4, HB4⟩
        case round =>
          obtain ⟨j, hj, rfl, HMj, HBj⟩ := hrel
          clear HM4 HB4
          by_cases hjl : j < kS
          · have hjl' : (j : Int) < kS := by omega
            have hjN : j < List.length NS := by rw [← HKS.out]; exact hjl
            obtain ⟨t, ht⟩ : ∃ t, t = List.getD NS j ⟨#[]⟩ := ⟨_, rfl⟩
            obtain ⟨a1, ha1⟩ : ∃ a1, a1 = (List.getD PS j (0, 0)).1 := ⟨_, rfl⟩
            obtain ⟨a2, ha2⟩ : ∃ a2, a2 = (List.getD PS j (0, 0)).2 := ⟨_, rfl⟩
            have hct : wr.cell? ⟨g5, j, none⟩ = some (.string t) := own_cell HMj.out.nms (by rw [ht]; simp only [strs, List.getElem?_map, List.getD_eq_getElem?_getD, List.getElem?_eq_getElem hjN]; rfl)
            have hpc := posCells_at PS j (by rw [HD.out.len]; exact hjN)
            rw [← ha1, ← ha2] at hpc
            have hc1 : wr.cell? ⟨g6, j * 2, none⟩ = some (.int .i64 a1) := own_cell HMj.out.fst hpc.1
            have hc2 : wr.cell? ⟨g6, j * 2 + 1, none⟩ = some (.int .i64 a2) := own_cell HMj.out.fst hpc.2
            have htz : t.size ≤ maxLen := by rw [ht]; exact HD.out.sz j hjN
            have htat : (D).atKey (.string t.data.toList) (posD 0 0) = posD a1 a2 := by rw [ht, ha1, ha2]; exact HD.out.at_ j hjN
            have hth : Maps.has (D) (.string t.data.toList) = true := by rw [ht]; exact HD.out.has j hjN
            have HAT : Hid _ := htat
            have HTH : Hid _ := hth
            have hg6 : g6 < wr.heap.size := lt_of_cell hc1
            have HBn : Hid (Below wr.heap.size wr (wr.alloc (.cells #[.int .i64 a1, .int .i64 a2] 49))) := (Below.refl _ wr).alloc (Nat.le_refl _) _
            clear hpc ht ha1 ha2 htat hth
            go_wp2_with (at_lookup; refine wpList_lookup_pos rfl _ _ rfl (w.heap.size + 1 + 1) nn (D) rfl HMj.out.map t rfl htz a1 a2 HAT.out true HTH.out ?_)
            go_quiet (fail)
            go_wp2_with fail
            go_roundw
            case rel => exact ⟨j + 1, by omega, by go_num, (HMj.out.below HBn.out).drewM _, belowN (HBj.out.trans (HBn.out.mono HBj.out.size)) _⟩
            case measure => simp [intOf]; omega
          · have hjl' : decide ((j : Int) < kS) = false := by simp; omega
            go_wp2_with fail
            go_roundw
            case rel => exact ⟨i + 1, by omega, by go_num, ⟨NS, PS, some ⟨g5, 0, none⟩, c5, some ⟨g6, 0, none⟩, c6, some ⟨g, 0, none⟩, fcap, m + 1, nn, D, by rw [HKS.out], by rw [HKP.out], by go_num, HMj.out, HD.out, by omega, by rw [← HKS.out]; omega, by omega, HBj.out⟩⟩
            case measure => simp [intOf]; omega

end Go.Proofs.YbulkbvicFmt

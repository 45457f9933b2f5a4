import Derived.Test.Qxb6602011aModel
import Derived.Deep.CutBlock
import Derived.Deep.CutRange
namespace Go.Proofs.Qxb6602011a
open Go.RowKit
open Plain

theorem fin_found {z : Nat → Int} {n e : Nat} {base : Int} {st : Nat → Nat} {L k m : Nat} (h : Lines z n e st L) (he : e ≤ n) (h0 : ¬ (skip z n (st 0) < lineEnd z n (st 0) ∧ z (skip z n (st 0)) ≠ 35)) (hns : ∀ j, 1 ≤ j → j < k → skip z n (st j) < lineEnd z n (st j) → ¬ stopAt z n base (st j)) (hk : k ≤ L) (h1 : 1 ≤ m) (h2 : m < k) (hb : skip z n (st m) < lineEnd z n (st m)) (H : ∀ e', fromLine z n base st (m + 1) e' = e') : partEnd z n base e = lineEnd z n (st m) := by
  rw [partEnd_lines h he h0]
  refine fromLine_down h _ m rfl h1 (by omega) (fun j a b => hns j a (by omega)) (fun e' => ?_) _
  rw [fromLine_note h h1 (by omega) hb (hns m h1 h2 hb)]
  exact H _

theorem fin_none {z : Nat → Int} {n e : Nat} {base : Int} {st : Nat → Nat} {L : Nat} (h : Lines z n e st L) (he : e ≤ n) (h0 : ¬ (skip z n (st 0) < lineEnd z n (st 0) ∧ z (skip z n (st 0)) ≠ 35)) (H : ∀ e', fromLine z n base st 1 e' = e') : partEnd z n base e = if skip z n (st 0) < lineEnd z n (st 0) then lineEnd z n (st 0) else e := by
  rw [partEnd_lines h he h0, H]

theorem firstNB_line (a : Option Addr) (n cap : Nat) (z : Nat → Int) (s : Nat) (w : World) (ht : Text w a n z) (hn : n ≤ 1048576) (hs : s ≤ n) :
    Calls Try.prog 34 #[.slice a n cap, .int .i64 s, .int .i64 (lineEnd z n s : Nat)] w fun e w' => e = .returned (.int .i64 (skip z n s)) ∧ w' = w := by
  refine (firstNB_any a n cap z s (lineEnd z n s) w ht hn (lineEnd_ge z n s) (lineEnd_le hs)).mono ?_
  rintro e w' ⟨rfl, rfl⟩
  exact ⟨by rw [skip_fnb hs], rfl⟩

theorem Text.drawn {w w' : World} {a : Option Addr} {n q : Nat} {z : Nat → Int} (h : Text w a n z) (hw : w' = w.drewN q) : Hid (Text w' a n z) := by
  subst hw; exact h

theorem lines_mem {z : Nat → Int} {n e B : Nat} {w : World} {vs ve : Value} {T : List Nat} (hl : Lines z n e (fun j => T.getD j 0) T.length) (hs : BufI B w vs T) (hv : BufI B w ve (T.map (lineEnd z n))) :
    ∃ (st : Nat → Nat) (L bs os cs be oe ce : Nat), L = T.length ∧ Lines z n e st L ∧ vs = .slice (some ⟨bs, os, none⟩) L cs ∧ ve = .slice (some ⟨be, oe, none⟩) L ce ∧ (∀ j, j < L → w.cell? ⟨bs, os + j, none⟩ = some (.int .i64 (st j))) ∧ (∀ j, j < L → w.cell? ⟨be, oe + j, none⟩ = some (.int .i64 (lineEnd z n (st j) : Nat))) := by
  obtain ⟨a1, c1, rfl, t1⟩ := hs.form
  obtain ⟨a2, c2, rfl, t2⟩ := hv.form
  have hpos := hl.pos
  obtain ⟨bs, os, rfl, _⟩ := t1 0 hpos
  obtain ⟨be, oe, rfl, _⟩ := t2 0 (by simpa using hpos)
  refine ⟨fun j => T.getD j 0, T.length, bs, os, c1, be, oe, c2, rfl, hl, rfl, by simp, fun j hj => ?_, fun j hj => ?_⟩
  · obtain ⟨b, o, he, hc⟩ := t1 j hj
    cases he
    exact hc
  · obtain ⟨b, o, he, hc⟩ := t2 j (by simpa using hj)
    cases he
    rw [hc]
    simp [List.getD, hj]

set_option maxRecDepth 100000 in
set_option maxHeartbeats 1000000 in
theorem model_any (a : Option Addr) (n cap : Nat) (z : Nat → Int) (e : Nat) (base : Int) (w : World) (ht : Text w a n z) (hn : n ≤ 1048576) (he : e ≤ n) (hb1 : -9223372036854775808 ≤ base) (hb2 : base ≤ 9223372036854775807) :
    Calls Try.prog 13 #[.slice a n cap, .int .i64 e, .int .i64 base] w fun r w' => r = .returned (.int .i64 (partEnd z n base e)) ∧ Below w.heap.size w w' := by
  have HT : Hid (Text w a n z) := ht
  clear ht
  go_enter Try.func13, Try.ntmps13
  go_upto_block 0 with fail
  go_cut [8, 9] from 16 (fun vs ve wx => ∃ T : List Nat, T.length ≤ n + 1 ∧ Hid (Lines z n e (fun j => T.getD j 0) T.length) ∧ Hid (BufI w.heap.size wx vs T) ∧ Hid (BufI w.heap.size wx ve (T.map (lineEnd z n))) ∧ Hid (Below w.heap.size w wx))
  case first =>
    go_wp2_with fail
    go_loopw [8, 9, 10] (fun vs ve vp wr => ∃ (ss : List Nat) (p : Nat), p ≤ n ∧ ss.length ≤ p ∧ vp = .int .i64 p ∧ Hid (Part z n e (ss ++ [p])) ∧ Hid (BufI w.heap.size wr vs ss) ∧ Hid (BufI w.heap.size wr ve (ss.map (lineEnd z n))) ∧ Hid (Sep vs ve) ∧ Hid (Below w.heap.size w wr)) (fun _ _ vp _ => n - (intOf vp).toNat)
    case atStart => exact ⟨[], e, he, Nat.zero_le _, rfl, Part.start z n e, World.ownsRow_nil _ _ _ _, World.ownsRow_nil _ _ _ _, .inl rfl, Below.refl _ _⟩
    case round =>
      obtain ⟨ss, p, hp, hsl, rfl, hpart, hbs, hbe, hsep, hbel⟩ := hrel
      have htw : Hid (Text wr a n z) := HT.out.below hbel.out
      go_upto_block 2 with fail
      go_cut [11] from 19 to 69 (fun vq wx => vq = .int .i64 (lineEnd z n p) ∧ wx = wr)
      case first =>
        go_wp2_with fail
        go_loop [11] (fun vq => ∃ k : Nat, k ≤ n ∧ p ≤ k ∧ vq = .int .i64 k ∧ Hid (lineEnd z n p = lineEnd z n k)) (fun vq => n - (intOf vq).toNat)
        case atStart => exact ⟨p, hp, Nat.le_refl _, rfl, rfl⟩
        case round =>
          obtain ⟨k, hk, hpk, rfl, hlk⟩ := hrel
          by_cases hlt : k < n
          · obtain ⟨b, off, rfl, hc⟩ := htw.out k hlt
            cases hbr : isBr (z k) with
            | false =>
              have HS : Hid (lineEnd z n p = lineEnd z n (k + 1)) := hlk.out.trans (scan_go hlt (by simp [nBr, hbr]))
              clear hlk
              go_wp2_with (go_at_call 33; refine (isBrk_any _ _).mono ?_; rintro e w' ⟨rfl, rfl⟩)
              go_round
              case rel => exact ⟨k + 1, by omega, by omega, by go_num, HS⟩
              case measure => simp [intOf]; omega
            | true =>
              have HS : Hid (lineEnd z n p = k) := hlk.out.trans (scan_off (by simp [nBr, hbr]))
              clear hlk
              go_wp2_with (go_at_call 33; refine (isBrk_any _ _).mono ?_; rintro e w' ⟨rfl, rfl⟩)
              go_meet
              case rel => exact ⟨by rw [HS.out], rfl⟩
          · have HS : Hid (lineEnd z n p = k) := hlk.out.trans (scan_end (by omega))
            clear hlk
            go_wp2_with (go_at_call 33; refine (isBrk_any _ _).mono ?_; rintro e w' ⟨rfl, rfl⟩)
            go_meet
            case rel => exact ⟨by rw [HS.out], rfl⟩
      case rest =>
        obtain ⟨rfl, rfl⟩ := hcut
        have hq1 := lineEnd_ge z n p
        have hq2 := lineEnd_le (z := z) hp
        have hsz := hbel.out.size
        go_wp2_with (at_builtin; refine wpList_append_bufI rfl (.tmp 33) (.tmp 35) rfl w.heap.size _ ss rfl (hbs.out.alloc _) (by simp; omega) _ p rfl (by simp) (by omega) ?_)
        intro vs1 w1 hb1 ha1
        have A1 := (App.alloc _ _ _).trans ha1
        have HB0 : Hid (BufI w.heap.size w1 vs1 (ss ++ [p])) := hb1
        have HE0 : Hid (BufI w.heap.size w1 u9 (ss.map (lineEnd z n))) := hbe.out.kept A1 hsep.out.symm
        have HSP0 : Hid (Sep u9 vs1) := hsep.out.symm.app hbe.out A1
        have HW0 : Hid (Below w.heap.size w w1) := hbel.out.grown A1.grown hsz hbs.out.row
        clear hb1 ha1 A1 hbs hbe hsep hbel htw
        have hsz1 := HW0.out.size
        go_wp2_with (at_builtin; refine wpList_append_bufI rfl (.tmp 37) (.tmp 39) rfl w.heap.size _ (ss.map (lineEnd z n)) rfl (HE0.out.alloc _) (by simp; omega) _ (lineEnd z n p) rfl (by simp) (by simp; omega) ?_)
        intro ve2 w2 hb2 ha2
        have A2 := (App.alloc _ _ _).trans ha2
        have HB1 : Hid (BufI w.heap.size w2 vs1 (ss ++ [p])) := HB0.out.kept A2 HSP0.out.symm
        have HE2 : Hid (BufI w.heap.size w2 ve2 ((ss ++ [p]).map (lineEnd z n))) := by
          show BufI w.heap.size w2 ve2 _
          rw [List.map_append]; exact hb2
        have HSP : Hid (Sep vs1 ve2) := HSP0.out.symm.app HB0.out A2
        have HW2 : Hid (Below w.heap.size w w2) := HW0.out.grown A2.grown hsz1 HE0.out.row
        clear hb2 ha2 A2 HB0 HE0 HSP0 HW0
        have htw2 : Hid (Text w2 a n z) := HT.out.below HW2.out
        by_cases hqn : lineEnd z n p = n
        · have hqb : ((lineEnd z n p : Int) == n) = true := by simp [hqn]
          have HX : Hid (nextLine z n p = n) := nextLine_full hqn
          clear hqn
          have HL : Hid (Lines z n e (fun j => (ss ++ [p]).getD j 0) (ss ++ [p]).length) := hpart.out.done HX.out
          clear hpart HX
          go_wp2
          go_meet
          case rel => exact ⟨ss ++ [p], by simp; omega, HL, HB1, HE2, HW2⟩
        · have hqb : ((lineEnd z n p : Int) == n) = false := by simp; omega
          have hlt : lineEnd z n p < n := by omega
          obtain ⟨b, off, hae, hc⟩ := htw2.out (lineEnd z n p) hlt
          cases hae
          clear hqn
          cases h13 : (z (lineEnd z n p) == 13) with
          | false =>
            have h13' : z (lineEnd z n p) ≠ 13 := by simpa using h13
            have HX0 : Hid (nextLine z n p = lineEnd z n p + 1) := by
              show nextLine z n p = _
              rw [nextLine_as hlt]; exact if_neg (fun h => h13' h.2.1)
            by_cases hpn : lineEnd z n p + 1 < n
            · have HP2 : Hid (Part z n e ((ss ++ [p]) ++ [lineEnd z n p + 1])) := by
                have := hpart.out.more (by rw [HX0.out]; exact hpn)
                rw [HX0.out] at this; exact this
              clear hpart HX0
              go_wp2
              go_roundw
              case rel => exact ⟨ss ++ [p], _, by omega, by simp; omega, by go_num, HP2, HB1, HE2, HSP, HW2⟩
              case measure => simp [intOf]; omega
            · have HX : Hid (nextLine z n p = n) := HX0.out.trans (by omega)
              clear HX0
              have HL : Hid (Lines z n e (fun j => (ss ++ [p]).getD j 0) (ss ++ [p]).length) := hpart.out.done HX.out
              clear hpart HX
              go_wp2
              go_meet
              case rel => exact ⟨ss ++ [p], by simp; omega, HL, HB1, HE2, HW2⟩
          | true =>
            have h13' : z (lineEnd z n p) = 13 := by simpa using h13
            by_cases hq1n : lineEnd z n p + 1 < n
            · obtain ⟨b', off', hae, hc1⟩ := htw2.out (lineEnd z n p + 1) hq1n
              cases hae
              cases h10 : (z (lineEnd z n p + 1) == 10) with
              | true =>
                have h10' : z (lineEnd z n p + 1) = 10 := by simpa using h10
                have HX0 : Hid (nextLine z n p = lineEnd z n p + 2) := by
                  show nextLine z n p = _
                  rw [nextLine_as hlt]; exact if_pos ⟨hq1n, h13', h10'⟩
                by_cases hpn : lineEnd z n p + 2 < n
                · have HP2 : Hid (Part z n e ((ss ++ [p]) ++ [lineEnd z n p + 2])) := by
                    have := hpart.out.more (by rw [HX0.out]; exact hpn)
                    rw [HX0.out] at this; exact this
                  clear hpart HX0
                  go_wp2
                  go_roundw
                  case rel => exact ⟨ss ++ [p], _, by omega, by simp; omega, by go_num, HP2, HB1, HE2, HSP, HW2⟩
                  case measure => simp [intOf]; omega
                · have HX : Hid (nextLine z n p = n) := HX0.out.trans (by omega)
                  clear HX0
                  have HL : Hid (Lines z n e (fun j => (ss ++ [p]).getD j 0) (ss ++ [p]).length) := hpart.out.done HX.out
                  clear hpart HX
                  go_wp2
                  go_meet
                  case rel => exact ⟨ss ++ [p], by simp; omega, HL, HB1, HE2, HW2⟩
              | false =>
                have h10' : z (lineEnd z n p + 1) ≠ 10 := by simpa using h10
                have HX0 : Hid (nextLine z n p = lineEnd z n p + 1) := by
                  show nextLine z n p = _
                  rw [nextLine_as hlt]; exact if_neg (fun h => h10' h.2.2)
                by_cases hpn : lineEnd z n p + 1 < n
                · have HP2 : Hid (Part z n e ((ss ++ [p]) ++ [lineEnd z n p + 1])) := by
                    have := hpart.out.more (by rw [HX0.out]; exact hpn)
                    rw [HX0.out] at this; exact this
                  clear hpart HX0
                  go_wp2
                  go_roundw
                  case rel => exact ⟨ss ++ [p], _, by omega, by simp; omega, by go_num, HP2, HB1, HE2, HSP, HW2⟩
                  case measure => simp [intOf]; omega
                · exact absurd hq1n hpn
            · have HX : Hid (nextLine z n p = n) := by
                show nextLine z n p = n
                rw [nextLine_as hlt, if_neg (fun h => hq1n h.1)]; omega
              have HL : Hid (Lines z n e (fun j => (ss ++ [p]).getD j 0) (ss ++ [p]).length) := hpart.out.done HX.out
              clear hpart HX
              go_wp2
              go_meet
              case rel => exact ⟨ss ++ [p], by simp; omega, HL, HB1, HE2, HW2⟩
  case rest =>
    obtain ⟨T, hTl, hlines, hbs, hbe, hbel⟩ := hcut
    rename World => wm
    obtain ⟨st, L, bs, os, cs, be, oe, ce, hLT, hl, rfl, rfl, hcs, hce⟩ := lines_mem hlines.out hbs.out hbe.out
    have htw : Hid (Text wm a n z) := HT.out.below hbel.out
    have HL : Hid (Lines z n e st L) := hl
    have HCS : Hid (∀ j, j < L → wm.cell? ⟨bs, os + j, none⟩ = some (.int .i64 (st j))) := hcs
    have HCE : Hid (∀ j, j < L → wm.cell? ⟨be, oe + j, none⟩ = some (.int .i64 (lineEnd z n (st j) : Nat))) := hce
    have hLn : L ≤ n + 1 := by omega
    have hpos := hl.pos
    have hpos' : (0 : Int) < (L : Int) := by omega
    have hcs0 : wm.cell? ⟨bs, os, none⟩ = some (.int .i64 (st 0)) := by simpa using hcs 0 hpos
    have hce0 : wm.cell? ⟨be, oe, none⟩ = some (.int .i64 (lineEnd z n (st 0) : Nat)) := by simpa using hce 0 hpos
    have hst0 := hl.le he 0 hpos
    have hl01 := lineEnd_ge z n (st 0)
    have hl02 := lineEnd_le (z := z) hst0
    have hs01 := skip_ge z n (st 0)
    have hs02 := skip_le_end (z := z) hst0
    clear hlines hbs hbe hl hcs hce hTl hLT
    go_wp2_with fail
    go_quiet ((go_at_call 34; exact Calls.quiet_of_same (firstNB_line _ _ _ z _ _ (by exact htw.out) hn hst0)))
    by_cases hb0 : skip z n (st 0) < lineEnd z n (st 0)
    · obtain ⟨b, off, hae, hc0⟩ := htw.out (skip z n (st 0)) (by omega)
      cases hae
      cases h35 : (z (skip z n (st 0)) != 35) with
      | true =>
        have HR : Hid (partEnd z n base e = e) := partEnd_other HL.out he hb0 (by simpa using h35)
        go_wp2
        go_ret
        exact ⟨ret_int (by rw [HR.out]), hbel.out.trans ⟨rfl, rfl, rfl, Nat.le_refl _, fun _ _ => rfl⟩⟩
      | false =>
        have H0 : Hid (¬ (skip z n (st 0) < lineEnd z n (st 0) ∧ z (skip z n (st 0)) ≠ 35)) := fun h => h.2 (by simpa using h35)
        go_upto_block 4 with fail
        go_cut [13] from 16 (fun vk wx => ∃ k q : Nat, 1 ≤ k ∧ k ≤ L ∧ vk = .int .i64 k ∧ Hid (wx = wm.drewN q) ∧ Hid (∀ j, 1 ≤ j → j < k → skip z n (st j) < lineEnd z n (st j) → ¬ stopAt z n base (st j)) ∧ Hid (∀ e', fromLine z n base st k e' = e'))
        case first =>
          go_wp2_with fail
          go_loopw [13] (fun vk wr => ∃ k q : Nat, 1 ≤ k ∧ k ≤ L ∧ vk = .int .i64 k ∧ Hid (wr = wm.drewN q) ∧ Hid (∀ j, 1 ≤ j → j < k → skip z n (st j) < lineEnd z n (st j) → ¬ stopAt z n base (st j))) (fun vk _ => L - (intOf vk).toNat)
          case atStart => exact ⟨1, nq, Nat.le_refl _, by omega, rfl, rfl, fun j a b => by omega⟩
          case round =>
            obtain ⟨k, q, hk1, hkL, rfl, hwr, hns⟩ := hrel
            have htwr := htw.out.drawn hwr.out
            by_cases hlt : k < L
            · have hlt' : (k : Int) < (L : Int) := by omega
              have hck : wr.cell? ⟨bs, os + k, none⟩ = some (.int .i64 (st k)) := by rw [hwr.out]; exact HCS.out k hlt
              have hcek : wr.cell? ⟨be, oe + k, none⟩ = some (.int .i64 (lineEnd z n (st k) : Nat)) := by rw [hwr.out]; exact HCE.out k hlt
              have hstk := HL.out.le he k hlt
              have m1 := lineEnd_ge z n (st k)
              have m2 := lineEnd_le (z := z) hstk
              have m3 := skip_ge z n (st k)
              have m4 := skip_le_end (z := z) hstk
              by_cases hbk : skip z n (st k) < lineEnd z n (st k)
              · obtain ⟨b', off', hae, hcz⟩ := htwr.out (skip z n (st k)) (by omega)
                cases hae
                cases hz : (z (skip z n (st k)) != 35) with
                | true =>
                  have HF : Hid (∀ e', fromLine z n base st k e' = e') := fun e' => fromLine_stop HL.out hk1 hlt hbk (.inl (by simpa using hz)) e'
                  go_wp2_with fail
                  go_quiet ((go_at_call 34; exact Calls.quiet_of_same (firstNB_line _ _ _ z _ _ (by exact htwr.out) hn hstk)))
                  go_wp2
                  go_meet
                  case rel => exact ⟨k, q + nq, hk1, hkL, rfl, by rw [hwr.out, World.drewN_drewN]; rfl, hns, HF⟩
                | false =>
                  by_cases hbs : (skip z n (st k) : Int) - st k ≤ base
                  · have HF : Hid (∀ e', fromLine z n base st k e' = e') := fun e' => fromLine_stop HL.out hk1 hlt hbk (.inr hbs) e'
                    go_wp2_with fail
                    go_quiet ((go_at_call 34; exact Calls.quiet_of_same (firstNB_line _ _ _ z _ _ (by exact htwr.out) hn hstk)))
                    go_wp2
                    go_meet
                    case rel => exact ⟨k, q + nq, hk1, hkL, rfl, by rw [hwr.out, World.drewN_drewN]; rfl, hns, HF⟩
                  · have HN : Hid (∀ j, 1 ≤ j → j < k + 1 → skip z n (st j) < lineEnd z n (st j) → ¬ stopAt z n base (st j)) := by
                      intro j h1 h2 h3
                      by_cases hj : j = k
                      · subst hj
                        rintro (h | h)
                        · exact h (by simpa using hz)
                        · exact hbs h
                      · exact hns.out j h1 (by omega) h3
                    clear hns
                    go_wp2_with fail
                    go_quiet ((go_at_call 34; exact Calls.quiet_of_same (firstNB_line _ _ _ z _ _ (by exact htwr.out) hn hstk)))
                    go_wp2
                    go_roundw
                    case rel => exact ⟨k + 1, q + nq, by omega, by omega, by go_num, by rw [hwr.out, World.drewN_drewN]; rfl, HN⟩
                    case measure => simp [intOf]; omega
              · have HN : Hid (∀ j, 1 ≤ j → j < k + 1 → skip z n (st j) < lineEnd z n (st j) → ¬ stopAt z n base (st j)) := by
                  intro j h1 h2 h3
                  by_cases hj : j = k
                  · subst hj; exact absurd h3 hbk
                  · exact hns.out j h1 (by omega) h3
                clear hns
                go_wp2_with fail
                go_quiet ((go_at_call 34; exact Calls.quiet_of_same (firstNB_line _ _ _ z _ _ (by exact htwr.out) hn hstk)))
                go_wp2
                go_roundw
                case rel => exact ⟨k + 1, q + nq, by omega, by omega, by go_num, by rw [hwr.out, World.drewN_drewN]; rfl, HN⟩
                case measure => simp [intOf]; omega
            · obtain rfl : k = L := by omega
              have HF : Hid (∀ e', fromLine z n base st k e' = e') := fun e' => fromLine_end HL.out e'
              go_wp2
              go_meet
              case rel => exact ⟨k, q, hk1, hkL, rfl, hwr, hns, HF⟩
        case rest =>
          obtain ⟨k, q, hk1, hkL, rfl, hwc, hns, hfk⟩ := hcut
          go_wp2_with fail
          go_loopw [15] (fun vm wr => ∃ m q : Nat, m + 1 ≤ k ∧ vm = .int .i64 m ∧ Hid (wr = wm.drewN q) ∧ Hid (∀ e', fromLine z n base st (m + 1) e' = e')) (fun vm _ => (intOf vm).toNat)
          case atStart => exact ⟨k - 1, q, by omega, by rw [show ((k - 1 : Nat) : Int) = (k : Int) - 1 from by omega], hwc, by rw [show k - 1 + 1 = k from by omega]; exact hfk⟩
          case round =>
            obtain ⟨m, q2, hmk, rfl, hwr, hfm⟩ := hrel
            have htwr := htw.out.drawn hwr.out
            by_cases hm1 : 1 ≤ m
            · have hmL : m < L := by omega
              have hmL' : (m : Int) < (L : Int) := by omega
              have hm1' : (1 : Int) ≤ (m : Int) := by omega
              have hck : wr.cell? ⟨bs, os + m, none⟩ = some (.int .i64 (st m)) := by rw [hwr.out]; exact HCS.out m hmL
              have hcek : wr.cell? ⟨be, oe + m, none⟩ = some (.int .i64 (lineEnd z n (st m) : Nat)) := by rw [hwr.out]; exact HCE.out m hmL
              have hstk := HL.out.le he m hmL
              have m1 := lineEnd_ge z n (st m)
              have m2 := lineEnd_le (z := z) hstk
              have m3 := skip_ge z n (st m)
              have m4 := skip_le_end (z := z) hstk
              by_cases hbk : skip z n (st m) < lineEnd z n (st m)
              · have HR : Hid (partEnd z n base e = lineEnd z n (st m)) := fin_found HL.out he H0.out hns.out hkL hm1 (by omega) hbk hfm.out
                clear hfm hns hfk
                go_wp2_with fail
                go_quiet ((go_at_call 34; exact Calls.quiet_of_same (firstNB_line _ _ _ z _ _ (by exact htwr.out) hn hstk)))
                go_wp2
                go_ret
                exact ⟨ret_int (by rw [HR.out]), by rw [hwr.out]; exact hbel.out.trans ⟨rfl, rfl, rfl, Nat.le_refl _, fun _ _ => rfl⟩⟩
              · have HM : Hid (∀ e', fromLine z n base st ((m - 1) + 1) e' = e') := by
                  intro e'
                  rw [show m - 1 + 1 = m from by omega, fromLine_blank HL.out hm1 hmL hbk]
                  exact hfm.out e'
                clear hfm hfk
                go_wp2_with fail
                go_quiet ((go_at_call 34; exact Calls.quiet_of_same (firstNB_line _ _ _ z _ _ (by exact htwr.out) hn hstk)))
                go_wp2
                go_roundw
                case rel => exact ⟨m - 1, q2 + nq, by omega, by rw [show ((m - 1 : Nat) : Int) = (m : Int) - 1 from by omega], by rw [hwr.out, World.drewN_drewN]; rfl, HM⟩
                case measure => simp [intOf]; omega
            · obtain rfl : m = 0 := by omega
              have hce1 : wr.cell? ⟨be, oe, none⟩ = some (.int .i64 (lineEnd z n (st 0) : Nat)) := by rw [hwr.out]; exact hce0
              have HR : Hid (partEnd z n base e = if skip z n (st 0) < lineEnd z n (st 0) then lineEnd z n (st 0) else e) := fin_none HL.out he H0.out hfm.out
              clear hfm hns hfk
              go_wp2
              go_ret
              exact ⟨ret_int (by rw [HR.out]; simp [hb0]), by rw [hwr.out]; exact hbel.out.trans ⟨rfl, rfl, rfl, Nat.le_refl _, fun _ _ => rfl⟩⟩
    · have H0 : Hid (¬ (skip z n (st 0) < lineEnd z n (st 0) ∧ z (skip z n (st 0)) ≠ 35)) := fun h => hb0 h.1
      go_upto_block 4 with fail
      go_cut [13] from 16 (fun vk wx => ∃ k q : Nat, 1 ≤ k ∧ k ≤ L ∧ vk = .int .i64 k ∧ Hid (wx = wm.drewN q) ∧ Hid (∀ j, 1 ≤ j → j < k → skip z n (st j) < lineEnd z n (st j) → ¬ stopAt z n base (st j)) ∧ Hid (∀ e', fromLine z n base st k e' = e'))
      case first =>
        go_wp2_with fail
        go_loopw [13] (fun vk wr => ∃ k q : Nat, 1 ≤ k ∧ k ≤ L ∧ vk = .int .i64 k ∧ Hid (wr = wm.drewN q) ∧ Hid (∀ j, 1 ≤ j → j < k → skip z n (st j) < lineEnd z n (st j) → ¬ stopAt z n base (st j))) (fun vk _ => L - (intOf vk).toNat)
        case atStart => exact ⟨1, nq, Nat.le_refl _, by omega, rfl, rfl, fun j a b => by omega⟩
        case round =>
          obtain ⟨k, q, hk1, hkL, rfl, hwr, hns⟩ := hrel
          have htwr := htw.out.drawn hwr.out
          by_cases hlt : k < L
          · have hlt' : (k : Int) < (L : Int) := by omega
            have hck : wr.cell? ⟨bs, os + k, none⟩ = some (.int .i64 (st k)) := by rw [hwr.out]; exact HCS.out k hlt
            have hcek : wr.cell? ⟨be, oe + k, none⟩ = some (.int .i64 (lineEnd z n (st k) : Nat)) := by rw [hwr.out]; exact HCE.out k hlt
            have hstk := HL.out.le he k hlt
            have m1 := lineEnd_ge z n (st k)
            have m2 := lineEnd_le (z := z) hstk
            have m3 := skip_ge z n (st k)
            have m4 := skip_le_end (z := z) hstk
            by_cases hbk : skip z n (st k) < lineEnd z n (st k)
            · obtain ⟨b', off', hae, hcz⟩ := htwr.out (skip z n (st k)) (by omega)
              cases hae
              cases hz : (z (skip z n (st k)) != 35) with
              | true =>
                have HF : Hid (∀ e', fromLine z n base st k e' = e') := fun e' => fromLine_stop HL.out hk1 hlt hbk (.inl (by simpa using hz)) e'
                go_wp2_with fail
                go_quiet ((go_at_call 34; exact Calls.quiet_of_same (firstNB_line _ _ _ z _ _ (by exact htwr.out) hn hstk)))
                go_wp2
                go_meet
                case rel => exact ⟨k, q + nq, hk1, hkL, rfl, by rw [hwr.out, World.drewN_drewN]; rfl, hns, HF⟩
              | false =>
                by_cases hbs : (skip z n (st k) : Int) - st k ≤ base
                · have HF : Hid (∀ e', fromLine z n base st k e' = e') := fun e' => fromLine_stop HL.out hk1 hlt hbk (.inr hbs) e'
                  go_wp2_with fail
                  go_quiet ((go_at_call 34; exact Calls.quiet_of_same (firstNB_line _ _ _ z _ _ (by exact htwr.out) hn hstk)))
                  go_wp2
                  go_meet
                  case rel => exact ⟨k, q + nq, hk1, hkL, rfl, by rw [hwr.out, World.drewN_drewN]; rfl, hns, HF⟩
                · have HN : Hid (∀ j, 1 ≤ j → j < k + 1 → skip z n (st j) < lineEnd z n (st j) → ¬ stopAt z n base (st j)) := by
                    intro j h1 h2 h3
                    by_cases hj : j = k
                    · subst hj
                      rintro (h | h)
                      · exact h (by simpa using hz)
                      · exact hbs h
                    · exact hns.out j h1 (by omega) h3
                  clear hns
                  go_wp2_with fail
                  go_quiet ((go_at_call 34; exact Calls.quiet_of_same (firstNB_line _ _ _ z _ _ (by exact htwr.out) hn hstk)))
                  go_wp2
                  go_roundw
                  case rel => exact ⟨k + 1, q + nq, by omega, by omega, by go_num, by rw [hwr.out, World.drewN_drewN]; rfl, HN⟩
                  case measure => simp [intOf]; omega
            · have HN : Hid (∀ j, 1 ≤ j → j < k + 1 → skip z n (st j) < lineEnd z n (st j) → ¬ stopAt z n base (st j)) := by
                intro j h1 h2 h3
                by_cases hj : j = k
                · subst hj; exact absurd h3 hbk
                · exact hns.out j h1 (by omega) h3
              clear hns
              go_wp2_with fail
              go_quiet ((go_at_call 34; exact Calls.quiet_of_same (firstNB_line _ _ _ z _ _ (by exact htwr.out) hn hstk)))
              go_wp2
              go_roundw
              case rel => exact ⟨k + 1, q + nq, by omega, by omega, by go_num, by rw [hwr.out, World.drewN_drewN]; rfl, HN⟩
              case measure => simp [intOf]; omega
          · obtain rfl : k = L := by omega
            have HF : Hid (∀ e', fromLine z n base st k e' = e') := fun e' => fromLine_end HL.out e'
            go_wp2
            go_meet
            case rel => exact ⟨k, q, hk1, hkL, rfl, hwr, hns, HF⟩
      case rest =>
        obtain ⟨k, q, hk1, hkL, rfl, hwc, hns, hfk⟩ := hcut
        go_wp2_with fail
        go_loopw [15] (fun vm wr => ∃ m q : Nat, m + 1 ≤ k ∧ vm = .int .i64 m ∧ Hid (wr = wm.drewN q) ∧ Hid (∀ e', fromLine z n base st (m + 1) e' = e')) (fun vm _ => (intOf vm).toNat)
        case atStart => exact ⟨k - 1, q, by omega, by rw [show ((k - 1 : Nat) : Int) = (k : Int) - 1 from by omega], hwc, by rw [show k - 1 + 1 = k from by omega]; exact hfk⟩
        case round =>
          obtain ⟨m, q2, hmk, rfl, hwr, hfm⟩ := hrel
          have htwr := htw.out.drawn hwr.out
          by_cases hm1 : 1 ≤ m
          · have hmL : m < L := by omega
            have hmL' : (m : Int) < (L : Int) := by omega
            have hm1' : (1 : Int) ≤ (m : Int) := by omega
            have hck : wr.cell? ⟨bs, os + m, none⟩ = some (.int .i64 (st m)) := by rw [hwr.out]; exact HCS.out m hmL
            have hcek : wr.cell? ⟨be, oe + m, none⟩ = some (.int .i64 (lineEnd z n (st m) : Nat)) := by rw [hwr.out]; exact HCE.out m hmL
            have hstk := HL.out.le he m hmL
            have m1 := lineEnd_ge z n (st m)
            have m2 := lineEnd_le (z := z) hstk
            have m3 := skip_ge z n (st m)
            have m4 := skip_le_end (z := z) hstk
            by_cases hbk : skip z n (st m) < lineEnd z n (st m)
            · have HR : Hid (partEnd z n base e = lineEnd z n (st m)) := fin_found HL.out he H0.out hns.out hkL hm1 (by omega) hbk hfm.out
              clear hfm hns hfk
              go_wp2_with fail
              go_quiet ((go_at_call 34; exact Calls.quiet_of_same (firstNB_line _ _ _ z _ _ (by exact htwr.out) hn hstk)))
              go_wp2
              go_ret
              exact ⟨ret_int (by rw [HR.out]), by rw [hwr.out]; exact hbel.out.trans ⟨rfl, rfl, rfl, Nat.le_refl _, fun _ _ => rfl⟩⟩
            · have HM : Hid (∀ e', fromLine z n base st ((m - 1) + 1) e' = e') := by
                intro e'
                rw [show m - 1 + 1 = m from by omega, fromLine_blank HL.out hm1 hmL hbk]
                exact hfm.out e'
              clear hfm hfk
              go_wp2_with fail
              go_quiet ((go_at_call 34; exact Calls.quiet_of_same (firstNB_line _ _ _ z _ _ (by exact htwr.out) hn hstk)))
              go_wp2
              go_roundw
              case rel => exact ⟨m - 1, q2 + nq, by omega, by rw [show ((m - 1 : Nat) : Int) = (m : Int) - 1 from by omega], by rw [hwr.out, World.drewN_drewN]; rfl, HM⟩
              case measure => simp [intOf]; omega
          · obtain rfl : m = 0 := by omega
            have hce1 : wr.cell? ⟨be, oe, none⟩ = some (.int .i64 (lineEnd z n (st 0) : Nat)) := by rw [hwr.out]; exact hce0
            have HR : Hid (partEnd z n base e = if skip z n (st 0) < lineEnd z n (st 0) then lineEnd z n (st 0) else e) := fin_none HL.out he H0.out hfm.out
            clear hfm hns hfk
            go_wp2
            go_ret
            exact ⟨ret_int (by rw [HR.out]; simp [hb0]), by rw [hwr.out]; exact hbel.out.trans ⟨rfl, rfl, rfl, Nat.le_refl _, fun _ _ => rfl⟩⟩

end Go.Proofs.Qxb6602011a

import Derived.Test.Qxb6602011aModel
import Derived.Test.Qxb6602011aPlainKeep
namespace Go.Proofs.Qxb6602011a
open Go.RowKit
open Plain

theorem plainHeader_out (a : Option Addr) (n cap : Nat) (ns : Int) (w : World) (hns : ns < 0 ∨ (n : Int) ≤ ns) :
    Calls Try.prog 24 #[.slice a n cap, .int .i64 ns] w fun e w' => e = .returned (.int .i64 (-1)) ∧ w' = w := by
  by_cases h : ns < 0
  · go_enter Try.func24, Try.ntmps24
    go_wp2
    go_ret
    exact ⟨rfl, rfl⟩
  · have h2 : (n : Int) ≤ ns := by omega
    clear hns
    go_enter Try.func24, Try.ntmps24
    go_wp2
    go_ret
    exact ⟨rfl, rfl⟩

theorem plainHeader_in (a : Option Addr) (n cap : Nat) (z : Nat → Int) (s : Nat) (w : World) (ht : Text w a n z) (hn : n ≤ 1048576) (hs : s < n) :
    Calls Try.prog 24 #[.slice a n cap, .int .i64 s] w fun e w' => e = .returned (.int .i64 (hdrI z n s)) ∧ w' = w := by
  have HT : Hid (Text w a n z) := ht
  clear ht
  have hs0 : decide ((s : Int) < 0) = false := by simp
  go_enter Try.func24, Try.ntmps24
  go_wp2
  go_loop [5] (fun v => ∃ k : Nat, k ≤ n ∧ s ≤ k ∧ v = .int .i64 k ∧ Hid (scan noBar z n s = scan noBar z n k)) (fun v => n - (intOf v).toNat)
  case atStart => exact ⟨s, by omega, Nat.le_refl _, rfl, rfl⟩
  case round =>
    obtain ⟨h, hk, hsk, rfl, hsc⟩ := hrel
    by_cases hlt : h < n
    · obtain ⟨b, off, rfl, hc⟩ := HT.out h hlt
      cases hbar : noBar (z h) with
      | true =>
        have HS : Hid (scan noBar z n s = scan noBar z n (h + 1)) := hsc.out.trans (scan_go hlt hbar)
        have h1 : (z h != 124) = true := by simp [noBar] at hbar; simpa using hbar.1
        have h2 : (z h != 62) = true := by simp [noBar] at hbar; simpa using hbar.2
        clear hsc hbar
        go_wp2
        go_round
        case rel => exact ⟨h + 1, by omega, by omega, by go_num, HS⟩
        case measure => simp [intOf]; omega
      | false =>
        have HS : Hid (scan noBar z n s = h) := hsc.out.trans (scan_off hbar)
        have HH : Hid (hdr z n s = if opens z (h - s) s false = some false then some h else none) := by
          show hdr z n s = _
          unfold hdr; rw [HS.out, if_neg (by omega)]
        have hne : ((h : Int) == n) = false := by simp; omega
        clear hsc
        cases h1 : (z h != 124) with
        | false =>
          go_wp2
          go_loop [6, 7] (fun vo vj => ∃ (j : Nat) (o : Bool), s ≤ j ∧ j ≤ h ∧ vo = .bool o ∧ vj = .int .i64 j ∧ Hid (opens z (h - s) s false = opens z (h - j) j o)) (fun _ vj => h - (intOf vj).toNat)
          case atStart => exact ⟨s, false, Nat.le_refl _, hsk, rfl, rfl, rfl⟩
          case round =>
            obtain ⟨j, o, hj1, hj2, rfl, rfl, hop⟩ := hrel
            by_cases hjl : j < h
            · obtain ⟨b', off', hae, hcj⟩ := HT.out j (by omega)
              cases hae
              have HST : Hid (opens z (h - j) j o = if z j = 35 then none else opens z (h - (j + 1)) (j + 1) (if z j = 33 ∨ z j = 38 then true else if isBl (z j) = true ∨ isBr (z j) = true then false else o)) := by
                show opens z (h - j) j o = _
                rw [show h - j = (h - (j + 1)) + 1 from by omega]; rfl
              cases h35 : (z j == 35) with
              | true =>
                have HR : Hid (hdr z n s = none) := by
                  show hdr z n s = none
                  have e0 : opens z (h - s) s false = none := by rw [hop.out, HST.out, if_pos (by simpa using h35)]
                  rw [HH.out, e0]; rfl
                clear hop HST
                go_wp2
                go_ret
                exact ⟨ret_int (by rw [hdrI_none HR.out]), rfl⟩
              | false =>
                have h35' : z j ≠ 35 := by simpa using h35
                cases h33 : (z j == 33) with
                | true =>
                  have HN : Hid (opens z (h - s) s false = opens z (h - (j + 1)) (j + 1) true) := by
                    show opens z (h - s) s false = _
                    rw [hop.out, HST.out, if_neg h35', if_pos (.inl (by simpa using h33))]
                  clear hop HST h35'
                  go_wp2
                  go_round
                  case rel => exact ⟨j + 1, _, by omega, by omega, rfl, by go_num, HN⟩
                  case measure => simp [intOf]; omega
                | false =>
                  cases h38 : (z j == 38) with
                  | true =>
                    have HN : Hid (opens z (h - s) s false = opens z (h - (j + 1)) (j + 1) true) := by
                      show opens z (h - s) s false = _
                      rw [hop.out, HST.out, if_neg h35', if_pos (.inr (by simpa using h38))]
                    clear hop HST h35'
                    go_wp2
                    go_round
                    case rel => exact ⟨j + 1, _, by omega, by omega, rfl, by go_num, HN⟩
                    case measure => simp [intOf]; omega
                  | false =>
                    have hnp : ¬ (z j = 33 ∨ z j = 38) := by simp at h33 h38; omega
                    cases hbl : isBl (z j) with
                    | true =>
                      have HN : Hid (opens z (h - s) s false = opens z (h - (j + 1)) (j + 1) false) := by
                        show opens z (h - s) s false = _
                        rw [hop.out, HST.out, if_neg h35', if_neg hnp, if_pos (.inl hbl)]
                      clear hop HST h35' hnp
                      go_wp2_with (first | (go_at_call 39; refine (isBlk_any _ _).mono ?_; rintro e w' ⟨rfl, rfl⟩) | (go_at_call 33; refine (isBrk_any _ _).mono ?_; rintro e w' ⟨rfl, rfl⟩))
                      go_round
                      case rel => exact ⟨j + 1, _, by omega, by omega, rfl, by go_num, HN⟩
                      case measure => simp [intOf]; omega
                    | false =>
                      cases hbr : isBr (z j) with
                      | true =>
                        have HN : Hid (opens z (h - s) s false = opens z (h - (j + 1)) (j + 1) false) := by
                          show opens z (h - s) s false = _
                          rw [hop.out, HST.out, if_neg h35', if_neg hnp, if_pos (.inr hbr)]
                        clear hop HST h35' hnp
                        go_wp2_with (first | (go_at_call 39; refine (isBlk_any _ _).mono ?_; rintro e w' ⟨rfl, rfl⟩) | (go_at_call 33; refine (isBrk_any _ _).mono ?_; rintro e w' ⟨rfl, rfl⟩))
                        go_round
                        case rel => exact ⟨j + 1, _, by omega, by omega, rfl, by go_num, HN⟩
                        case measure => simp [intOf]; omega
                      | false =>
                        have HN : Hid (opens z (h - s) s false = opens z (h - (j + 1)) (j + 1) o) := by
                          show opens z (h - s) s false = _
                          rw [hop.out, HST.out, if_neg h35', if_neg hnp, if_neg (by simp [hbl, hbr])]
                        clear hop HST h35' hnp
                        go_wp2_with (first | (go_at_call 39; refine (isBlk_any _ _).mono ?_; rintro e w' ⟨rfl, rfl⟩) | (go_at_call 33; refine (isBrk_any _ _).mono ?_; rintro e w' ⟨rfl, rfl⟩))
                        go_round
                        case rel => exact ⟨j + 1, _, by omega, by omega, rfl, by go_num, HN⟩
                        case measure => simp [intOf]; omega
            · obtain rfl : j = h := by omega
              have HO : Hid (opens z (j - s) s false = some o) := hop.out.trans (by rw [Nat.sub_self]; rfl)
              cases o with
              | true =>
                have HR : Hid (hdr z n s = none) := by
                  show hdr z n s = none
                  rw [HH.out, HO.out]; rfl
                clear hop HO
                go_wp2
                go_ret
                exact ⟨ret_int (by rw [hdrI_none HR.out]), rfl⟩
              | false =>
                have HR : Hid (hdr z n s = some j) := by
                  show hdr z n s = some j
                  rw [HH.out, HO.out]; rfl
                clear hop HO
                go_wp2
                go_ret
                exact ⟨ret_int (by rw [hdrI_some HR.out]), rfl⟩
        | true =>
          have h2 : (z h != 62) = false := by simp [noBar] at hbar h1; simpa using hbar h1
          go_wp2
          go_loop [6, 7] (fun vo vj => ∃ (j : Nat) (o : Bool), s ≤ j ∧ j ≤ h ∧ vo = .bool o ∧ vj = .int .i64 j ∧ Hid (opens z (h - s) s false = opens z (h - j) j o)) (fun _ vj => h - (intOf vj).toNat)
          case atStart => exact ⟨s, false, Nat.le_refl _, hsk, rfl, rfl, rfl⟩
          case round =>
            obtain ⟨j, o, hj1, hj2, rfl, rfl, hop⟩ := hrel
            by_cases hjl : j < h
            · obtain ⟨b', off', hae, hcj⟩ := HT.out j (by omega)
              cases hae
              have HST : Hid (opens z (h - j) j o = if z j = 35 then none else opens z (h - (j + 1)) (j + 1) (if z j = 33 ∨ z j = 38 then true else if isBl (z j) = true ∨ isBr (z j) = true then false else o)) := by
                show opens z (h - j) j o = _
                rw [show h - j = (h - (j + 1)) + 1 from by omega]; rfl
              cases h35 : (z j == 35) with
              | true =>
                have HR : Hid (hdr z n s = none) := by
                  show hdr z n s = none
                  have e0 : opens z (h - s) s false = none := by rw [hop.out, HST.out, if_pos (by simpa using h35)]
                  rw [HH.out, e0]; rfl
                clear hop HST
                go_wp2
                go_ret
                exact ⟨ret_int (by rw [hdrI_none HR.out]), rfl⟩
              | false =>
                have h35' : z j ≠ 35 := by simpa using h35
                cases h33 : (z j == 33) with
                | true =>
                  have HN : Hid (opens z (h - s) s false = opens z (h - (j + 1)) (j + 1) true) := by
                    show opens z (h - s) s false = _
                    rw [hop.out, HST.out, if_neg h35', if_pos (.inl (by simpa using h33))]
                  clear hop HST h35'
                  go_wp2
                  go_round
                  case rel => exact ⟨j + 1, _, by omega, by omega, rfl, by go_num, HN⟩
                  case measure => simp [intOf]; omega
                | false =>
                  cases h38 : (z j == 38) with
                  | true =>
                    have HN : Hid (opens z (h - s) s false = opens z (h - (j + 1)) (j + 1) true) := by
                      show opens z (h - s) s false = _
                      rw [hop.out, HST.out, if_neg h35', if_pos (.inr (by simpa using h38))]
                    clear hop HST h35'
                    go_wp2
                    go_round
                    case rel => exact ⟨j + 1, _, by omega, by omega, rfl, by go_num, HN⟩
                    case measure => simp [intOf]; omega
                  | false =>
                    have hnp : ¬ (z j = 33 ∨ z j = 38) := by simp at h33 h38; omega
                    cases hbl : isBl (z j) with
                    | true =>
                      have HN : Hid (opens z (h - s) s false = opens z (h - (j + 1)) (j + 1) false) := by
                        show opens z (h - s) s false = _
                        rw [hop.out, HST.out, if_neg h35', if_neg hnp, if_pos (.inl hbl)]
                      clear hop HST h35' hnp
                      go_wp2_with (first | (go_at_call 39; refine (isBlk_any _ _).mono ?_; rintro e w' ⟨rfl, rfl⟩) | (go_at_call 33; refine (isBrk_any _ _).mono ?_; rintro e w' ⟨rfl, rfl⟩))
                      go_round
                      case rel => exact ⟨j + 1, _, by omega, by omega, rfl, by go_num, HN⟩
                      case measure => simp [intOf]; omega
                    | false =>
                      cases hbr : isBr (z j) with
                      | true =>
                        have HN : Hid (opens z (h - s) s false = opens z (h - (j + 1)) (j + 1) false) := by
                          show opens z (h - s) s false = _
                          rw [hop.out, HST.out, if_neg h35', if_neg hnp, if_pos (.inr hbr)]
                        clear hop HST h35' hnp
                        go_wp2_with (first | (go_at_call 39; refine (isBlk_any _ _).mono ?_; rintro e w' ⟨rfl, rfl⟩) | (go_at_call 33; refine (isBrk_any _ _).mono ?_; rintro e w' ⟨rfl, rfl⟩))
                        go_round
                        case rel => exact ⟨j + 1, _, by omega, by omega, rfl, by go_num, HN⟩
                        case measure => simp [intOf]; omega
                      | false =>
                        have HN : Hid (opens z (h - s) s false = opens z (h - (j + 1)) (j + 1) o) := by
                          show opens z (h - s) s false = _
                          rw [hop.out, HST.out, if_neg h35', if_neg hnp, if_neg (by simp [hbl, hbr])]
                        clear hop HST h35' hnp
                        go_wp2_with (first | (go_at_call 39; refine (isBlk_any _ _).mono ?_; rintro e w' ⟨rfl, rfl⟩) | (go_at_call 33; refine (isBrk_any _ _).mono ?_; rintro e w' ⟨rfl, rfl⟩))
                        go_round
                        case rel => exact ⟨j + 1, _, by omega, by omega, rfl, by go_num, HN⟩
                        case measure => simp [intOf]; omega
            · obtain rfl : j = h := by omega
              have HO : Hid (opens z (j - s) s false = some o) := hop.out.trans (by rw [Nat.sub_self]; rfl)
              cases o with
              | true =>
                have HR : Hid (hdr z n s = none) := by
                  show hdr z n s = none
                  rw [HH.out, HO.out]; rfl
                clear hop HO
                go_wp2
                go_ret
                exact ⟨ret_int (by rw [hdrI_none HR.out]), rfl⟩
              | false =>
                have HR : Hid (hdr z n s = some j) := by
                  show hdr z n s = some j
                  rw [HH.out, HO.out]; rfl
                clear hop HO
                go_wp2
                go_ret
                exact ⟨ret_int (by rw [hdrI_some HR.out]), rfl⟩
    · obtain rfl : h = n := by omega
      have HH : Hid (hdr z h s = none) := by
        show hdr z h s = _
        unfold hdr; rw [hsc.out, scan_end (Nat.le_refl _), if_pos rfl]
      have hne : ((h : Int) == h) = true := by simp
      clear hsc
      go_wp2
      go_ret
      exact ⟨ret_int (by rw [hdrI_none HH.out]), rfl⟩

end Go.Proofs.Qxb6602011a

import Derived.Test.Qxb6602011aScan
import Derived.Test.Qxb6602011aPlainKeep
namespace Go.Proofs.Qxb6602011a
open Go.RowKit
open Plain

theorem nb_false {c : Int} (h : noBar c = true) : (c == 124) = false ∧ (c == 62) = false := by simp [noBar] at h; simpa using h

theorem blockHeader_any (a : Option Addr) (n cap nb : Nat) (z : Nat → Int) (s h : Nat) (w : World) (ht : Text w a n z) (hn : n ≤ 1048576) (hh : Hdr z n s h) (hst : w.cell? ⟨nb, 8, none⟩ = some (.int .i64 s)) :
    Calls Try.prog 47 #[.slice a n cap, .pointer (some ⟨nb, 0, none⟩)] w fun e w' => e = .returned (.int .i64 h) ∧ w' = w := by
  have HT : Hid (Text w a n z) := ht
  have HH : Hid (Hdr z n s h) := hh
  have hsh := hh.le
  have hhn := hh.lt
  clear ht hh
  go_enter Try.func47, Try.ntmps47
  go_wp2
  go_loop [5] (fun v => ∃ i : Nat, s ≤ i ∧ i ≤ h ∧ v = .int .i64 i ∧ Hid (opens z (h - i) i false = some false)) (fun v => h - (intOf v).toNat)
  case atStart => exact ⟨s, Nat.le_refl _, hsh, rfl, HH.out.props⟩
  case round =>
    obtain ⟨i, hi1, hi2, rfl, hop⟩ := hrel
    obtain ⟨b, off, hae, hc⟩ := HT.out i (by omega)
    cases hae
    by_cases hlt : i < h
    · obtain ⟨h124, h62⟩ := nb_false (HH.out.bars i hi1 hlt)
      obtain ⟨h35', hnx⟩ := opens_step hlt hop.out
      have h35 : (z i == 35) = false := by simpa using h35'
      have HNX : Hid (opens z (h - (i + 1)) (i + 1) (if z i = 33 ∨ z i = 38 then true else if isBl (z i) = true ∨ isBr (z i) = true then false else false) = some false) := hnx
      clear h35' hnx
      by_cases hpr : z i = 33 ∨ z i = 38
      · have HPR : Hid (z i = 33 ∨ z i = 38) := hpr
        have HOT : Hid (opens z (h - i) i true = some false) := (opens_prop hlt hpr true false).trans hop.out
        clear hop HNX
        cases h33 : (z i == 33) with
        | true =>
          clear hpr
          go_wp2
          go_loop [5] (fun v => ∃ j : Nat, i ≤ j ∧ j ≤ h ∧ v = .int .i64 j ∧ Hid (opens z (h - j) j true = some false)) (fun v => h - (intOf v).toNat)
          case atStart => exact ⟨i, Nat.le_refl _, hi2, rfl, HOT⟩
          case round =>
            obtain ⟨j, hj1, hj2, rfl, hoj⟩ := hrel
            have hjh : j < h := opens_at hj2 hoj.out
            have hjn : j < n := by omega
            obtain ⟨b', off', hae, hcj⟩ := HT.out j hjn
            cases hae
            cases hbl : isBl (z j) with
            | true =>
              have hji : i < j := by
                by_cases e : j = i
                · subst e
                  have := HPR.out
                  simp [isBl] at hbl
                  omega
                · omega
              have HOF : Hid (opens z (h - j) j false = some false) := (opens_blank hjh (.inl hbl) false true).trans hoj.out
              clear hoj
              go_wp2_with (first | (go_at_call 48; refine (isBlank_any _ _).mono ?_; rintro e w' ⟨rfl, rfl⟩) | (go_at_call 43; refine (isBreak_any _ _).mono ?_; rintro e w' ⟨rfl, rfl⟩))
              go_round
              case rel => exact ⟨j, by omega, by omega, rfl, HOF⟩
              case measure => simp [intOf]; omega
            | false =>
              cases hbr : isBr (z j) with
              | true =>
                have hji : i < j := by
                  by_cases e : j = i
                  · subst e
                    have := HPR.out
                    simp [isBr] at hbr
                    omega
                  · omega
                have HOF : Hid (opens z (h - j) j false = some false) := (opens_blank hjh (.inr hbr) false true).trans hoj.out
                clear hoj
                go_wp2_with (first | (go_at_call 48; refine (isBlank_any _ _).mono ?_; rintro e w' ⟨rfl, rfl⟩) | (go_at_call 43; refine (isBreak_any _ _).mono ?_; rintro e w' ⟨rfl, rfl⟩))
                go_round
                case rel => exact ⟨j, by omega, by omega, rfl, HOF⟩
                case measure => simp [intOf]; omega
              | false =>
                have HO2 : Hid (opens z (h - (j + 1)) (j + 1) true = some false) := by
                  show opens z (h - (j + 1)) (j + 1) true = some false
                  have := (opens_step hjh hoj.out).2
                  simpa [hbl, hbr] using this
                clear hoj
                go_wp2_with (first | (go_at_call 48; refine (isBlank_any _ _).mono ?_; rintro e w' ⟨rfl, rfl⟩) | (go_at_call 43; refine (isBreak_any _ _).mono ?_; rintro e w' ⟨rfl, rfl⟩))
                go_round
                case rel => exact ⟨j + 1, by omega, by omega, by go_num, HO2⟩
                case measure => simp [intOf]; omega
        | false =>
          have h38 : (z i == 38) = true := by simp at h33; simp; omega
          clear hpr
          go_wp2
          go_loop [5] (fun v => ∃ j : Nat, i ≤ j ∧ j ≤ h ∧ v = .int .i64 j ∧ Hid (opens z (h - j) j true = some false)) (fun v => h - (intOf v).toNat)
          case atStart => exact ⟨i, Nat.le_refl _, hi2, rfl, HOT⟩
          case round =>
            obtain ⟨j, hj1, hj2, rfl, hoj⟩ := hrel
            have hjh : j < h := opens_at hj2 hoj.out
            have hjn : j < n := by omega
            obtain ⟨b', off', hae, hcj⟩ := HT.out j hjn
            cases hae
            cases hbl : isBl (z j) with
            | true =>
              have hji : i < j := by
                by_cases e : j = i
                · subst e
                  have := HPR.out
                  simp [isBl] at hbl
                  omega
                · omega
              have HOF : Hid (opens z (h - j) j false = some false) := (opens_blank hjh (.inl hbl) false true).trans hoj.out
              clear hoj
              go_wp2_with (first | (go_at_call 48; refine (isBlank_any _ _).mono ?_; rintro e w' ⟨rfl, rfl⟩) | (go_at_call 43; refine (isBreak_any _ _).mono ?_; rintro e w' ⟨rfl, rfl⟩))
              go_round
              case rel => exact ⟨j, by omega, by omega, rfl, HOF⟩
              case measure => simp [intOf]; omega
            | false =>
              cases hbr : isBr (z j) with
              | true =>
                have hji : i < j := by
                  by_cases e : j = i
                  · subst e
                    have := HPR.out
                    simp [isBr] at hbr
                    omega
                  · omega
                have HOF : Hid (opens z (h - j) j false = some false) := (opens_blank hjh (.inr hbr) false true).trans hoj.out
                clear hoj
                go_wp2_with (first | (go_at_call 48; refine (isBlank_any _ _).mono ?_; rintro e w' ⟨rfl, rfl⟩) | (go_at_call 43; refine (isBreak_any _ _).mono ?_; rintro e w' ⟨rfl, rfl⟩))
                go_round
                case rel => exact ⟨j, by omega, by omega, rfl, HOF⟩
                case measure => simp [intOf]; omega
              | false =>
                have HO2 : Hid (opens z (h - (j + 1)) (j + 1) true = some false) := by
                  show opens z (h - (j + 1)) (j + 1) true = some false
                  have := (opens_step hjh hoj.out).2
                  simpa [hbl, hbr] using this
                clear hoj
                go_wp2_with (first | (go_at_call 48; refine (isBlank_any _ _).mono ?_; rintro e w' ⟨rfl, rfl⟩) | (go_at_call 43; refine (isBreak_any _ _).mono ?_; rintro e w' ⟨rfl, rfl⟩))
                go_round
                case rel => exact ⟨j + 1, by omega, by omega, by go_num, HO2⟩
                case measure => simp [intOf]; omega
      · have h33 : (z i == 33) = false := by simp; omega
        have h38 : (z i == 38) = false := by simp; omega
        have HN : Hid (opens z (h - (i + 1)) (i + 1) false = some false) := by
          show opens z (h - (i + 1)) (i + 1) false = some false
          have := HNX.out
          rw [if_neg hpr] at this
          simpa using this
        clear HNX hop hpr
        go_wp2
        go_round
        case rel => exact ⟨i + 1, by omega, by omega, by go_num, HN⟩
        case measure => simp [intOf]; omega
    · obtain rfl : i = h := by omega
      have hbar := HH.out.bar
      clear hop
      cases h124 : (z i == 124) with
      | true =>
        clear hbar
        go_wp2
        go_ret
        exact ⟨rfl, rfl⟩
      | false =>
        have h62 : (z i == 62) = true := by simp [noBar] at hbar h124; simpa using hbar h124
        clear hbar
        go_wp2
        go_ret
        exact ⟨rfl, rfl⟩


/-- What a walk is told of a node: its Kind, Style, Start and End. -/
structure Nod (w : World) (nb : Nat) (kind style st en : Int) : Prop where
  kind : w.cell? ⟨nb, 0, none⟩ = some (.int .i64 kind)
  style : w.cell? ⟨nb, 1, none⟩ = some (.int .i64 style)
  st : w.cell? ⟨nb, 8, none⟩ = some (.int .i64 st)
  en : w.cell? ⟨nb, 9, none⟩ = some (.int .i64 en)

def collB (kind style : Int) : Bool := (kind == 2 || kind == 3) && style != 5
def candB (style en : Int) (n : Nat) : Bool := (style == 3 || style == 4) && en == n

theorem no_cases {kind style en : Int} {n : Nat} (hcol : collB kind style = false) (hcand : candB style en n = false) :
    ((kind == 3) = true ∧ (style != 5) = false ∧ (style != 3) = true ∧ (style != 4) = true) ∨ ((kind == 3) = false ∧ (kind == 2) = true ∧ (style != 5) = false ∧ (style != 3) = true ∧ (style != 4) = true) ∨
    ((kind == 3) = false ∧ (kind == 2) = false ∧ (style != 3) = true ∧ (style != 4) = true) ∨ ((kind == 3) = false ∧ (kind == 2) = false ∧ (style != 3) = false ∧ (en != n) = true) ∨
    ((kind == 3) = false ∧ (kind == 2) = false ∧ (style != 3) = true ∧ (style != 4) = false ∧ (en != n) = true) := by
  simp [collB, candB] at *
  omega

theorem yes_cases {kind style en : Int} {n : Nat} (hcol : collB kind style = false) (hcand : candB style en n = true) :
    (kind == 3) = false ∧ (kind == 2) = false ∧ (en != n) = false ∧ ((style != 3) = false ∨ ((style != 3) = true ∧ (style != 4) = false)) := by
  simp [collB, candB] at *
  omega

set_option maxRecDepth 100000 in
theorem finalChomping_no (a : Option Addr) (n cap nb : Nat) (kind style st en : Int) (w : World) (hnd : Nod w nb kind style st en) (hcol : collB kind style = false) (hcand : candB style en n = false) :
    Calls Try.prog 40 #[.slice a n cap, .pointer (some ⟨nb, 0, none⟩)] w fun e w' => e = .returned (.tuple #[.int .i64 0, .int .u8 0, .bool false]) ∧ w' = w := by
  obtain ⟨k1, k2, k3, k4⟩ := hnd
  have hd := no_cases hcol hcand
  clear hcol hcand
  rcases hd with ⟨c1, c2, c3, c4⟩ | ⟨c1, c2, c3, c4, c5⟩ | ⟨c1, c2, c3, c4⟩ | ⟨c1, c2, c3, c4⟩ | ⟨c1, c2, c3, c4, c5⟩
  all_goals
    go_enter Try.func40, Try.ntmps40
    go_wp2
    go_loop [1] (fun v => v = .pointer (some ⟨nb, 0, none⟩)) (fun _ => 0)
    case atStart => rfl
    case round =>
      subst hrel
      go_wp2
      go_ret3
      exact ⟨rfl, rfl⟩

set_option maxRecDepth 100000 in
set_option maxHeartbeats 400000 in
theorem finalChomping_yes (a : Option Addr) (n cap nb : Nat) (z : Nat → Int) (kind style en : Int) (s h : Nat) (w : World) (ht : Text w a n z) (hn : n ≤ 1048576) (hh : Hdr z n s h) (hnd : Nod w nb kind style s en) (hcol : collB kind style = false) (hcand : candB style en n = true) :
    Calls Try.prog 40 #[.slice a n cap, .pointer (some ⟨nb, 0, none⟩)] w fun e w' => e = .returned (.tuple #[.int .i64 (chomp z n h).1, .int .u8 (chomp z n h).2, .bool true]) ∧ w' = w := by
  obtain ⟨k1, k2, k3, k4⟩ := hnd
  have HT : Hid (Text w a n z) := ht
  have HH : Hid (Hdr z n s h) := hh
  have hhn := hh.lt
  clear ht hh
  obtain ⟨c1, c2, c3, c4⟩ := yes_cases hcol hcand
  clear hcol hcand
  rcases c4 with c4 | ⟨c4, c5⟩
  all_goals
    go_enter Try.func40, Try.ntmps40
    go_wp2
    go_loop [1] (fun v => v = .pointer (some ⟨nb, 0, none⟩)) (fun _ => 0)
    case atStart => rfl
    case round =>
      subst hrel
      go_wp2_with (go_at_call 47; refine (blockHeader_any a n cap nb z s h _ (by exact HT.out) hn HH.out k3).mono ?_; rintro e w' ⟨rfl, rfl⟩)
      go_loop [4, 7] (fun va v => va = .int .i64 ((h : Int) + 1) ∧ ∃ i : Nat, h + 1 ≤ i ∧ i ≤ h + 3 ∧ (i ≤ n ∨ i = h + 1) ∧ v = .int .i64 i ∧ Hid (∀ k, h + 1 ≤ k → k < i → ¬ isInd (z k))) (fun _ v => h + 3 - (intOf v).toNat)
      case atStart => exact ⟨rfl, h + 1, Nat.le_refl _, by omega, .inr rfl, by go_num, fun k a b => by omega⟩
      case round =>
        obtain ⟨rfl, i, hi1, hi2, hi3, rfl, hno⟩ := hrel
        by_cases hlt : i < h + 3 ∧ i < n
        · obtain ⟨hl1, hl2⟩ := hlt
          obtain ⟨b, off, hae, hc⟩ := HT.out i hl2
          cases hae
          cases h45 : (z i == 45) with
          | true =>
            have HR : Hid (chomp z n h = (i, z i)) := chomp_hit hi1 hl1 hl2 hno.out (.inl (by simpa using h45))
            clear hno
            go_wp2
            all_goals
              go_ret3
              refine ⟨?_, rfl⟩
              rw [HR.out]; rfl
          | false =>
            cases h43 : (z i == 43) with
            | true =>
              have HR : Hid (chomp z n h = (i, z i)) := chomp_hit hi1 hl1 hl2 hno.out (.inr (by simpa using h43))
              clear hno
              go_wp2
              all_goals
                go_ret3
                refine ⟨?_, rfl⟩
                rw [HR.out]; rfl
            | false =>
              have HN : Hid (∀ k, h + 1 ≤ k → k < i + 1 → ¬ isInd (z k)) := by
                intro k q1 q2
                by_cases e : k = i
                · subst e; simp at h45 h43; unfold isInd; omega
                · exact hno.out k q1 (by omega)
              clear hno
              go_wp2
              all_goals
                go_round
                case rel => exact ⟨rfl, i + 1, by omega, by omega, by omega, by go_num, HN⟩
                case measure => simp [intOf]; omega
        · have HR : Hid (chomp z n h = (h + 1, 0)) := chomp_none (fun k q1 q2 q3 => hno.out k q1 (by omega))
          clear hno
          by_cases hl1 : i < h + 3
          · have hl2 : n ≤ i := by omega
            clear hlt
            go_wp2
            all_goals
              go_ret3
              refine ⟨?_, rfl⟩
              rw [HR.out]; rfl
          · clear hlt
            go_wp2
            all_goals
              go_ret3
              refine ⟨?_, rfl⟩
              rw [HR.out]; rfl

end Go.Proofs.Qxb6602011a

import Derived.Test.Qxb6602011aClone
namespace Go.Proofs.Qxb6602011a
open Go.RowKit
open Plain

theorem end_any (a : Option Addr) (n cap nb : Nat) (z : Nat → Int) (e : Nat) (base : Int) (conv : Bool) (w : World) (ht : Text w a n z) (hn : n ≤ 1048576) (he : e ≤ n) (hb1 : -9223372036854775808 ≤ base) (hb2 : base ≤ 9223372036854775807)
    (hnode : w.cell? ⟨nb, 9, none⟩ = some (.int .i64 e)) (hnb : nb < w.heap.size) :
    Calls Try.prog 32 #[.agg #[.slice a n cap, .pointer (some ⟨nb, 0, none⟩), .int .i64 base, .bool conv]] w fun r w' => r = .returned (.int .i64 (partEnd z n base e)) ∧ Below w.heap.size w w' := by
  have hB : Below w.heap.size w (w.alloc (.cells #[.slice a n cap, .pointer (some ⟨nb, 0, none⟩), .int .i64 base, .bool conv] 46)) := (Below.refl _ _).alloc (Nat.le_refl _) _
  have HT : Hid (Text (w.alloc (.cells #[.slice a n cap, .pointer (some ⟨nb, 0, none⟩), .int .i64 base, .bool conv] 46)) a n z) := ht.below hB
  have HB : Hid (Below w.heap.size w (w.alloc (.cells #[.slice a n cap, .pointer (some ⟨nb, 0, none⟩), .int .i64 base, .bool conv] 46))) := hB
  clear ht hB
  have hs1 := skip_ge z n e
  have hs2 := skip_le (z := z) he
  have hnl0 := nextLine_le (z := z) (n := n) (i := e)
  have hl1 := lineEnd_ge z n (skip z n e)
  have hl2 := lineEnd_le (z := z) hs2
  have hnl1 := nextLine_le (z := z) (n := n) (i := lineEnd z n (skip z n e))
  by_cases hlt : skip z n e < n
  · obtain ⟨b, off, hae, hc⟩ := HT.out (skip z n e) hlt
    cases hae
    cases hbr : isBr (z (skip z n e)) with
    | false =>
      cases h35 : (z (skip z n e) == 35) with
      | false =>
        have HP : Hid (partEnd z n base e = e) := by
          show partEnd z n base e = e
          unfold partEnd; rw [if_neg (by simpa using fun _ => (by simpa using h35)), if_pos ⟨hlt, hbr⟩]
        go_enter Try.func32, Try.ntmps32
        go_wp2_with (first | (go_at_call 41; refine (skip_any _ _ _ z _ _ (by exact HT.out) hn (by omega)).mono ?_; rintro e w' ⟨rfl, rfl⟩) | (go_at_call 42; refine (lineEnd_any _ _ _ z _ _ (by exact HT.out) hn (by omega)).mono ?_; rintro e w' ⟨rfl, rfl⟩) | (go_at_call 43; refine (isBreak_any _ _).mono ?_; rintro e w' ⟨rfl, rfl⟩) | (go_at_call 44; refine (nextLine_any _ _ _ z _ _ (by exact HT.out) hn (by omega)).mono ?_; rintro e w' ⟨rfl, rfl⟩))
        go_ret
        exact ⟨ret_int (by rw [HP.out]), HB.out⟩
      | true =>
        have HP : Hid (partEnd z n base e = endL z n base (lineEnd z n (skip z n e)) (nextLine z n (lineEnd z n (skip z n e)))) := by
          show partEnd z n base e = _
          unfold partEnd; rw [if_pos ⟨hlt, by simpa using h35⟩]
        go_enter Try.func32, Try.ntmps32
        go_wp2_with (first | (go_at_call 41; refine (skip_any _ _ _ z _ _ (by exact HT.out) hn (by omega)).mono ?_; rintro e w' ⟨rfl, rfl⟩) | (go_at_call 42; refine (lineEnd_any _ _ _ z _ _ (by exact HT.out) hn (by omega)).mono ?_; rintro e w' ⟨rfl, rfl⟩) | (go_at_call 43; refine (isBreak_any _ _).mono ?_; rintro e w' ⟨rfl, rfl⟩) | (go_at_call 44; refine (nextLine_any _ _ _ z _ _ (by exact HT.out) hn (by omega)).mono ?_; rintro e w' ⟨rfl, rfl⟩))
        go_loop [4, 6] (fun en ix => ∃ en' i : Nat, i ≤ n ∧ en = .int .i64 en' ∧ ix = .int .i64 i ∧ Hid (partEnd z n base e = endL z n base en' i)) (fun _ ix => n - (intOf ix).toNat)
        case atStart => exact ⟨_, _, by omega, rfl, rfl, HP⟩
        case round =>
          obtain ⟨en', i, hi, rfl, rfl, hp⟩ := hrel
          by_cases hin : i < n
          · have j1 := skip_ge z n i
            have j2 := skip_le (z := z) hi
            have n1 := nextLine_gt (z := z) hin
            have n2 := nextLine_le (z := z) (n := n) (i := i)
            by_cases hjn : skip z n i < n
            · obtain ⟨b', off', hae, hcj⟩ := HT.out (skip z n i) hjn
              cases hae
              have hjq : ((skip z n i : Int) == n) = false := by simp; omega
              cases hbj : isBr (z (skip z n i)) with
              | true =>
                have HP2 : Hid (partEnd z n base e = endL z n base en' (nextLine z n i)) := hp.out.trans (endL_blank hin (.inl ⟨hjn, hbj⟩))
                clear hp HP
                go_wp2_with (first | (go_at_call 41; refine (skip_any _ _ _ z _ _ (by exact HT.out) hn (by omega)).mono ?_; rintro e w' ⟨rfl, rfl⟩) | (go_at_call 42; refine (lineEnd_any _ _ _ z _ _ (by exact HT.out) hn (by omega)).mono ?_; rintro e w' ⟨rfl, rfl⟩) | (go_at_call 43; refine (isBreak_any _ _).mono ?_; rintro e w' ⟨rfl, rfl⟩) | (go_at_call 44; refine (nextLine_any _ _ _ z _ _ (by exact HT.out) hn (by omega)).mono ?_; rintro e w' ⟨rfl, rfl⟩))
                go_round
                case rel => exact ⟨_, _, n2, rfl, rfl, HP2⟩
                case measure => simp [intOf]; omega
              | false =>
                have hnb : ¬ ((skip z n i < n ∧ isBr (z (skip z n i)) = true) ∨ skip z n i = n) := by simp [hbj]; omega
                cases hq : (z (skip z n i) != 35) with
                | true =>
                  have HP2 : Hid (partEnd z n base e = en') := hp.out.trans (endL_stop hin hnb (.inl (by simpa using hq)))
                  clear hp HP hnb
                  go_wp2_with (first | (go_at_call 41; refine (skip_any _ _ _ z _ _ (by exact HT.out) hn (by omega)).mono ?_; rintro e w' ⟨rfl, rfl⟩) | (go_at_call 42; refine (lineEnd_any _ _ _ z _ _ (by exact HT.out) hn (by omega)).mono ?_; rintro e w' ⟨rfl, rfl⟩) | (go_at_call 43; refine (isBreak_any _ _).mono ?_; rintro e w' ⟨rfl, rfl⟩) | (go_at_call 44; refine (nextLine_any _ _ _ z _ _ (by exact HT.out) hn (by omega)).mono ?_; rintro e w' ⟨rfl, rfl⟩))
                  go_ret
                  exact ⟨ret_int (by rw [HP2.out]), HB.out⟩
                | false =>
                  have hq' : z (skip z n i) = 35 := by simpa using hq
                  by_cases hbs : (skip z n i : Int) - i ≤ base
                  · have HP2 : Hid (partEnd z n base e = en') := hp.out.trans (endL_stop hin hnb (.inr hbs))
                    clear hp HP hnb hq'
                    go_wp2_with (first | (go_at_call 41; refine (skip_any _ _ _ z _ _ (by exact HT.out) hn (by omega)).mono ?_; rintro e w' ⟨rfl, rfl⟩) | (go_at_call 42; refine (lineEnd_any _ _ _ z _ _ (by exact HT.out) hn (by omega)).mono ?_; rintro e w' ⟨rfl, rfl⟩) | (go_at_call 43; refine (isBreak_any _ _).mono ?_; rintro e w' ⟨rfl, rfl⟩) | (go_at_call 44; refine (nextLine_any _ _ _ z _ _ (by exact HT.out) hn (by omega)).mono ?_; rintro e w' ⟨rfl, rfl⟩))
                    go_ret
                    exact ⟨ret_int (by rw [HP2.out]), HB.out⟩
                  · have HP2 : Hid (partEnd z n base e = endL z n base (lineEnd z n (skip z n i)) (nextLine z n i)) := hp.out.trans (endL_note hin hnb (by simp [hq', hbs]))
                    clear hp HP hnb hq'
                    go_wp2_with (first | (go_at_call 41; refine (skip_any _ _ _ z _ _ (by exact HT.out) hn (by omega)).mono ?_; rintro e w' ⟨rfl, rfl⟩) | (go_at_call 42; refine (lineEnd_any _ _ _ z _ _ (by exact HT.out) hn (by omega)).mono ?_; rintro e w' ⟨rfl, rfl⟩) | (go_at_call 43; refine (isBreak_any _ _).mono ?_; rintro e w' ⟨rfl, rfl⟩) | (go_at_call 44; refine (nextLine_any _ _ _ z _ _ (by exact HT.out) hn (by omega)).mono ?_; rintro e w' ⟨rfl, rfl⟩))
                    go_round
                    case rel => exact ⟨_, _, n2, rfl, rfl, HP2⟩
                    case measure => simp [intOf]; omega
            · have hjq : ((skip z n i : Int) == n) = true := by simp; omega
              have HP2 : Hid (partEnd z n base e = endL z n base en' (nextLine z n i)) := hp.out.trans (endL_blank hin (.inr (by omega)))
              clear hp HP
              go_wp2_with (first | (go_at_call 41; refine (skip_any _ _ _ z _ _ (by exact HT.out) hn (by omega)).mono ?_; rintro e w' ⟨rfl, rfl⟩) | (go_at_call 42; refine (lineEnd_any _ _ _ z _ _ (by exact HT.out) hn (by omega)).mono ?_; rintro e w' ⟨rfl, rfl⟩) | (go_at_call 43; refine (isBreak_any _ _).mono ?_; rintro e w' ⟨rfl, rfl⟩) | (go_at_call 44; refine (nextLine_any _ _ _ z _ _ (by exact HT.out) hn (by omega)).mono ?_; rintro e w' ⟨rfl, rfl⟩))
              go_round
              case rel => exact ⟨_, _, n2, rfl, rfl, HP2⟩
              case measure => simp [intOf]; omega
          · have HP2 : Hid (partEnd z n base e = en') := hp.out.trans (endL_end (by omega))
            clear hp HP
            go_wp2_with (first | (go_at_call 41; refine (skip_any _ _ _ z _ _ (by exact HT.out) hn (by omega)).mono ?_; rintro e w' ⟨rfl, rfl⟩) | (go_at_call 42; refine (lineEnd_any _ _ _ z _ _ (by exact HT.out) hn (by omega)).mono ?_; rintro e w' ⟨rfl, rfl⟩) | (go_at_call 43; refine (isBreak_any _ _).mono ?_; rintro e w' ⟨rfl, rfl⟩) | (go_at_call 44; refine (nextLine_any _ _ _ z _ _ (by exact HT.out) hn (by omega)).mono ?_; rintro e w' ⟨rfl, rfl⟩))
            go_ret
            exact ⟨ret_int (by rw [HP2.out]), HB.out⟩
    | true =>
      have h35 : (z (skip z n e) == 35) = false := by simp [isBr] at hbr; simp; omega
      have HP : Hid (partEnd z n base e = endL z n base e (nextLine z n e)) := by
        show partEnd z n base e = _
        unfold partEnd; rw [if_neg (by simpa using fun _ => (by simpa using h35)), if_neg (by simp [hbr])]
      go_enter Try.func32, Try.ntmps32
      go_wp2_with (first | (go_at_call 41; refine (skip_any _ _ _ z _ _ (by exact HT.out) hn (by omega)).mono ?_; rintro e w' ⟨rfl, rfl⟩) | (go_at_call 42; refine (lineEnd_any _ _ _ z _ _ (by exact HT.out) hn (by omega)).mono ?_; rintro e w' ⟨rfl, rfl⟩) | (go_at_call 43; refine (isBreak_any _ _).mono ?_; rintro e w' ⟨rfl, rfl⟩) | (go_at_call 44; refine (nextLine_any _ _ _ z _ _ (by exact HT.out) hn (by omega)).mono ?_; rintro e w' ⟨rfl, rfl⟩))
      go_loop [4, 6] (fun en ix => ∃ en' i : Nat, i ≤ n ∧ en = .int .i64 en' ∧ ix = .int .i64 i ∧ Hid (partEnd z n base e = endL z n base en' i)) (fun _ ix => n - (intOf ix).toNat)
      case atStart => exact ⟨_, _, by omega, rfl, rfl, HP⟩
      case round =>
        obtain ⟨en', i, hi, rfl, rfl, hp⟩ := hrel
        by_cases hin : i < n
        · have j1 := skip_ge z n i
          have j2 := skip_le (z := z) hi
          have n1 := nextLine_gt (z := z) hin
          have n2 := nextLine_le (z := z) (n := n) (i := i)
          by_cases hjn : skip z n i < n
          · obtain ⟨b', off', hae, hcj⟩ := HT.out (skip z n i) hjn
            cases hae
            have hjq : ((skip z n i : Int) == n) = false := by simp; omega
            cases hbj : isBr (z (skip z n i)) with
            | true =>
              have HP2 : Hid (partEnd z n base e = endL z n base en' (nextLine z n i)) := hp.out.trans (endL_blank hin (.inl ⟨hjn, hbj⟩))
              clear hp HP
              go_wp2_with (first | (go_at_call 41; refine (skip_any _ _ _ z _ _ (by exact HT.out) hn (by omega)).mono ?_; rintro e w' ⟨rfl, rfl⟩) | (go_at_call 42; refine (lineEnd_any _ _ _ z _ _ (by exact HT.out) hn (by omega)).mono ?_; rintro e w' ⟨rfl, rfl⟩) | (go_at_call 43; refine (isBreak_any _ _).mono ?_; rintro e w' ⟨rfl, rfl⟩) | (go_at_call 44; refine (nextLine_any _ _ _ z _ _ (by exact HT.out) hn (by omega)).mono ?_; rintro e w' ⟨rfl, rfl⟩))
              go_round
              case rel => exact ⟨_, _, n2, rfl, rfl, HP2⟩
              case measure => simp [intOf]; omega
            | false =>
              have hnb : ¬ ((skip z n i < n ∧ isBr (z (skip z n i)) = true) ∨ skip z n i = n) := by simp [hbj]; omega
              cases hq : (z (skip z n i) != 35) with
              | true =>
                have HP2 : Hid (partEnd z n base e = en') := hp.out.trans (endL_stop hin hnb (.inl (by simpa using hq)))
                clear hp HP hnb
                go_wp2_with (first | (go_at_call 41; refine (skip_any _ _ _ z _ _ (by exact HT.out) hn (by omega)).mono ?_; rintro e w' ⟨rfl, rfl⟩) | (go_at_call 42; refine (lineEnd_any _ _ _ z _ _ (by exact HT.out) hn (by omega)).mono ?_; rintro e w' ⟨rfl, rfl⟩) | (go_at_call 43; refine (isBreak_any _ _).mono ?_; rintro e w' ⟨rfl, rfl⟩) | (go_at_call 44; refine (nextLine_any _ _ _ z _ _ (by exact HT.out) hn (by omega)).mono ?_; rintro e w' ⟨rfl, rfl⟩))
                go_ret
                exact ⟨ret_int (by rw [HP2.out]), HB.out⟩
              | false =>
                have hq' : z (skip z n i) = 35 := by simpa using hq
                by_cases hbs : (skip z n i : Int) - i ≤ base
                · have HP2 : Hid (partEnd z n base e = en') := hp.out.trans (endL_stop hin hnb (.inr hbs))
                  clear hp HP hnb hq'
                  go_wp2_with (first | (go_at_call 41; refine (skip_any _ _ _ z _ _ (by exact HT.out) hn (by omega)).mono ?_; rintro e w' ⟨rfl, rfl⟩) | (go_at_call 42; refine (lineEnd_any _ _ _ z _ _ (by exact HT.out) hn (by omega)).mono ?_; rintro e w' ⟨rfl, rfl⟩) | (go_at_call 43; refine (isBreak_any _ _).mono ?_; rintro e w' ⟨rfl, rfl⟩) | (go_at_call 44; refine (nextLine_any _ _ _ z _ _ (by exact HT.out) hn (by omega)).mono ?_; rintro e w' ⟨rfl, rfl⟩))
                  go_ret
                  exact ⟨ret_int (by rw [HP2.out]), HB.out⟩
                · have HP2 : Hid (partEnd z n base e = endL z n base (lineEnd z n (skip z n i)) (nextLine z n i)) := hp.out.trans (endL_note hin hnb (by simp [hq', hbs]))
                  clear hp HP hnb hq'
                  go_wp2_with (first | (go_at_call 41; refine (skip_any _ _ _ z _ _ (by exact HT.out) hn (by omega)).mono ?_; rintro e w' ⟨rfl, rfl⟩) | (go_at_call 42; refine (lineEnd_any _ _ _ z _ _ (by exact HT.out) hn (by omega)).mono ?_; rintro e w' ⟨rfl, rfl⟩) | (go_at_call 43; refine (isBreak_any _ _).mono ?_; rintro e w' ⟨rfl, rfl⟩) | (go_at_call 44; refine (nextLine_any _ _ _ z _ _ (by exact HT.out) hn (by omega)).mono ?_; rintro e w' ⟨rfl, rfl⟩))
                  go_round
                  case rel => exact ⟨_, _, n2, rfl, rfl, HP2⟩
                  case measure => simp [intOf]; omega
          · have hjq : ((skip z n i : Int) == n) = true := by simp; omega
            have HP2 : Hid (partEnd z n base e = endL z n base en' (nextLine z n i)) := hp.out.trans (endL_blank hin (.inr (by omega)))
            clear hp HP
            go_wp2_with (first | (go_at_call 41; refine (skip_any _ _ _ z _ _ (by exact HT.out) hn (by omega)).mono ?_; rintro e w' ⟨rfl, rfl⟩) | (go_at_call 42; refine (lineEnd_any _ _ _ z _ _ (by exact HT.out) hn (by omega)).mono ?_; rintro e w' ⟨rfl, rfl⟩) | (go_at_call 43; refine (isBreak_any _ _).mono ?_; rintro e w' ⟨rfl, rfl⟩) | (go_at_call 44; refine (nextLine_any _ _ _ z _ _ (by exact HT.out) hn (by omega)).mono ?_; rintro e w' ⟨rfl, rfl⟩))
            go_round
            case rel => exact ⟨_, _, n2, rfl, rfl, HP2⟩
            case measure => simp [intOf]; omega
        · have HP2 : Hid (partEnd z n base e = en') := hp.out.trans (endL_end (by omega))
          clear hp HP
          go_wp2_with (first | (go_at_call 41; refine (skip_any _ _ _ z _ _ (by exact HT.out) hn (by omega)).mono ?_; rintro e w' ⟨rfl, rfl⟩) | (go_at_call 42; refine (lineEnd_any _ _ _ z _ _ (by exact HT.out) hn (by omega)).mono ?_; rintro e w' ⟨rfl, rfl⟩) | (go_at_call 43; refine (isBreak_any _ _).mono ?_; rintro e w' ⟨rfl, rfl⟩) | (go_at_call 44; refine (nextLine_any _ _ _ z _ _ (by exact HT.out) hn (by omega)).mono ?_; rintro e w' ⟨rfl, rfl⟩))
          go_ret
          exact ⟨ret_int (by rw [HP2.out]), HB.out⟩
  · have HP : Hid (partEnd z n base e = endL z n base e (nextLine z n e)) := by
      show partEnd z n base e = _
      unfold partEnd; rw [if_neg (by simp [hlt]), if_neg (by simp [hlt])]
    go_enter Try.func32, Try.ntmps32
    go_wp2_with (first | (go_at_call 41; refine (skip_any _ _ _ z _ _ (by exact HT.out) hn (by omega)).mono ?_; rintro e w' ⟨rfl, rfl⟩) | (go_at_call 42; refine (lineEnd_any _ _ _ z _ _ (by exact HT.out) hn (by omega)).mono ?_; rintro e w' ⟨rfl, rfl⟩) | (go_at_call 43; refine (isBreak_any _ _).mono ?_; rintro e w' ⟨rfl, rfl⟩) | (go_at_call 44; refine (nextLine_any _ _ _ z _ _ (by exact HT.out) hn (by omega)).mono ?_; rintro e w' ⟨rfl, rfl⟩))
    go_loop [4, 6] (fun en ix => ∃ en' i : Nat, i ≤ n ∧ en = .int .i64 en' ∧ ix = .int .i64 i ∧ Hid (partEnd z n base e = endL z n base en' i)) (fun _ ix => n - (intOf ix).toNat)
    case atStart => exact ⟨_, _, by omega, rfl, rfl, HP⟩
    case round =>
      obtain ⟨en', i, hi, rfl, rfl, hp⟩ := hrel
      by_cases hin : i < n
      · have j1 := skip_ge z n i
        have j2 := skip_le (z := z) hi
        have n1 := nextLine_gt (z := z) hin
        have n2 := nextLine_le (z := z) (n := n) (i := i)
        by_cases hjn : skip z n i < n
        · obtain ⟨b', off', hae, hcj⟩ := HT.out (skip z n i) hjn
          cases hae
          have hjq : ((skip z n i : Int) == n) = false := by simp; omega
          cases hbj : isBr (z (skip z n i)) with
          | true =>
            have HP2 : Hid (partEnd z n base e = endL z n base en' (nextLine z n i)) := hp.out.trans (endL_blank hin (.inl ⟨hjn, hbj⟩))
            clear hp HP
            go_wp2_with (first | (go_at_call 41; refine (skip_any _ _ _ z _ _ (by exact HT.out) hn (by omega)).mono ?_; rintro e w' ⟨rfl, rfl⟩) | (go_at_call 42; refine (lineEnd_any _ _ _ z _ _ (by exact HT.out) hn (by omega)).mono ?_; rintro e w' ⟨rfl, rfl⟩) | (go_at_call 43; refine (isBreak_any _ _).mono ?_; rintro e w' ⟨rfl, rfl⟩) | (go_at_call 44; refine (nextLine_any _ _ _ z _ _ (by exact HT.out) hn (by omega)).mono ?_; rintro e w' ⟨rfl, rfl⟩))
            go_round
            case rel => exact ⟨_, _, n2, rfl, rfl, HP2⟩
            case measure => simp [intOf]; omega
          | false =>
            have hnb : ¬ ((skip z n i < n ∧ isBr (z (skip z n i)) = true) ∨ skip z n i = n) := by simp [hbj]; omega
            cases hq : (z (skip z n i) != 35) with
            | true =>
              have HP2 : Hid (partEnd z n base e = en') := hp.out.trans (endL_stop hin hnb (.inl (by simpa using hq)))
              clear hp HP hnb
              go_wp2_with (first | (go_at_call 41; refine (skip_any _ _ _ z _ _ (by exact HT.out) hn (by omega)).mono ?_; rintro e w' ⟨rfl, rfl⟩) | (go_at_call 42; refine (lineEnd_any _ _ _ z _ _ (by exact HT.out) hn (by omega)).mono ?_; rintro e w' ⟨rfl, rfl⟩) | (go_at_call 43; refine (isBreak_any _ _).mono ?_; rintro e w' ⟨rfl, rfl⟩) | (go_at_call 44; refine (nextLine_any _ _ _ z _ _ (by exact HT.out) hn (by omega)).mono ?_; rintro e w' ⟨rfl, rfl⟩))
              go_ret
              exact ⟨ret_int (by rw [HP2.out]), HB.out⟩
            | false =>
              have hq' : z (skip z n i) = 35 := by simpa using hq
              by_cases hbs : (skip z n i : Int) - i ≤ base
              · have HP2 : Hid (partEnd z n base e = en') := hp.out.trans (endL_stop hin hnb (.inr hbs))
                clear hp HP hnb hq'
                go_wp2_with (first | (go_at_call 41; refine (skip_any _ _ _ z _ _ (by exact HT.out) hn (by omega)).mono ?_; rintro e w' ⟨rfl, rfl⟩) | (go_at_call 42; refine (lineEnd_any _ _ _ z _ _ (by exact HT.out) hn (by omega)).mono ?_; rintro e w' ⟨rfl, rfl⟩) | (go_at_call 43; refine (isBreak_any _ _).mono ?_; rintro e w' ⟨rfl, rfl⟩) | (go_at_call 44; refine (nextLine_any _ _ _ z _ _ (by exact HT.out) hn (by omega)).mono ?_; rintro e w' ⟨rfl, rfl⟩))
                go_ret
                exact ⟨ret_int (by rw [HP2.out]), HB.out⟩
              · have HP2 : Hid (partEnd z n base e = endL z n base (lineEnd z n (skip z n i)) (nextLine z n i)) := hp.out.trans (endL_note hin hnb (by simp [hq', hbs]))
                clear hp HP hnb hq'
                go_wp2_with (first | (go_at_call 41; refine (skip_any _ _ _ z _ _ (by exact HT.out) hn (by omega)).mono ?_; rintro e w' ⟨rfl, rfl⟩) | (go_at_call 42; refine (lineEnd_any _ _ _ z _ _ (by exact HT.out) hn (by omega)).mono ?_; rintro e w' ⟨rfl, rfl⟩) | (go_at_call 43; refine (isBreak_any _ _).mono ?_; rintro e w' ⟨rfl, rfl⟩) | (go_at_call 44; refine (nextLine_any _ _ _ z _ _ (by exact HT.out) hn (by omega)).mono ?_; rintro e w' ⟨rfl, rfl⟩))
                go_round
                case rel => exact ⟨_, _, n2, rfl, rfl, HP2⟩
                case measure => simp [intOf]; omega
        · have hjq : ((skip z n i : Int) == n) = true := by simp; omega
          have HP2 : Hid (partEnd z n base e = endL z n base en' (nextLine z n i)) := hp.out.trans (endL_blank hin (.inr (by omega)))
          clear hp HP
          go_wp2_with (first | (go_at_call 41; refine (skip_any _ _ _ z _ _ (by exact HT.out) hn (by omega)).mono ?_; rintro e w' ⟨rfl, rfl⟩) | (go_at_call 42; refine (lineEnd_any _ _ _ z _ _ (by exact HT.out) hn (by omega)).mono ?_; rintro e w' ⟨rfl, rfl⟩) | (go_at_call 43; refine (isBreak_any _ _).mono ?_; rintro e w' ⟨rfl, rfl⟩) | (go_at_call 44; refine (nextLine_any _ _ _ z _ _ (by exact HT.out) hn (by omega)).mono ?_; rintro e w' ⟨rfl, rfl⟩))
          go_round
          case rel => exact ⟨_, _, n2, rfl, rfl, HP2⟩
          case measure => simp [intOf]; omega
      · have HP2 : Hid (partEnd z n base e = en') := hp.out.trans (endL_end (by omega))
        clear hp HP
        go_wp2_with (first | (go_at_call 41; refine (skip_any _ _ _ z _ _ (by exact HT.out) hn (by omega)).mono ?_; rintro e w' ⟨rfl, rfl⟩) | (go_at_call 42; refine (lineEnd_any _ _ _ z _ _ (by exact HT.out) hn (by omega)).mono ?_; rintro e w' ⟨rfl, rfl⟩) | (go_at_call 43; refine (isBreak_any _ _).mono ?_; rintro e w' ⟨rfl, rfl⟩) | (go_at_call 44; refine (nextLine_any _ _ _ z _ _ (by exact HT.out) hn (by omega)).mono ?_; rintro e w' ⟨rfl, rfl⟩))
        go_ret
        exact ⟨ret_int (by rw [HP2.out]), HB.out⟩


theorem zzPartEnd_any (a : Option Addr) (n cap : Nat) (z : Nat → Int) (e : Nat) (base : Int) (w : World) (ht : Text w a n z) (hn : n ≤ 1048576) (he : e ≤ n) (hb1 : -9223372036854775808 ≤ base) (hb2 : base ≤ 9223372036854775807) :
    Calls Try.prog 12 #[.slice a n cap, .int .i64 e, .int .i64 base] w fun r w' => r = .returned (.int .i64 (partEnd z n base e)) ∧ Below w.heap.size w w' := by
  have HT := fun o => ht.below ((Below.refl _ w).alloc (Nat.le_refl _) o)
  have hB := fun o => (Below.refl _ w).alloc (Nat.le_refl _) o
  clear ht
  go_enter Try.func12, Try.ntmps12
  go_wp2_with fail
  refine (end_any a n cap w.heap.size z e base false _ (by exact HT _) hn he hb1 hb2 (by simp) (by simp)).mono ?_
  rintro r w' ⟨rfl, hbel⟩
  go_wp2
  go_ret
  exact ⟨rfl, (hB _).trans (hbel.mono (by simp))⟩

end Go.Proofs.Qxb6602011a

import Derived.Test.Qxb6602011aBufI
import Derived.Test.Qxb6602011aPlainModel
import Derived.Deep.QuietTactic
import Derived.BigQuiet
namespace Go.Proofs.Qxb6602011a
open Go.RowKit
open Plain

theorem isBrk_any (c : Int) (w : World) :
    Calls Try.prog 33 #[.int .u8 c] w fun e w' => e = .returned (.bool (isBr c)) ∧ w' = w := by
  unfold isBr
  by_cases h : c = 10
  · subst h
    go_enter Try.func33, Try.ntmps33
    go_wp2
    go_ret
    exact ⟨rfl, rfl⟩
  · have h1 : (c == 10) = false := by simpa using h
    go_enter Try.func33, Try.ntmps33
    go_wp2
    all_goals
      go_ret
      exact ⟨by simp [*], rfl⟩

theorem isBlk_any (c : Int) (w : World) :
    Calls Try.prog 39 #[.int .u8 c] w fun e w' => e = .returned (.bool (isBl c)) ∧ w' = w := by
  unfold isBl
  by_cases h : c = 32
  · subst h
    go_enter Try.func39, Try.ntmps39
    go_wp2
    go_ret
    exact ⟨rfl, rfl⟩
  · have h1 : (c == 32) = false := by simpa using h
    go_enter Try.func39, Try.ntmps39
    go_wp2
    all_goals
      go_ret
      exact ⟨by simp [*], rfl⟩

theorem firstNB_any (a : Option Addr) (n cap : Nat) (z : Nat → Int) (s en : Nat) (w : World) (ht : Text w a n z) (hn : n ≤ 1048576) (hs : s ≤ en) (he : en ≤ n) :
    Calls Try.prog 34 #[.slice a n cap, .int .i64 s, .int .i64 en] w fun e w' => e = .returned (.int .i64 (scan isBl z en s)) ∧ w' = w := by
  have HT : Hid (Text w a n z) := ht
  clear ht
  go_enter Try.func34, Try.ntmps34
  go_wp2
  go_loop [1] (fun j => ∃ k : Nat, k ≤ en ∧ s ≤ k ∧ j = .int .i64 k ∧ Hid (scan isBl z en s = scan isBl z en k)) (fun j => en - (intOf j).toNat)
  case atStart => exact ⟨s, hs, Nat.le_refl _, rfl, rfl⟩
  case round =>
    obtain ⟨k, hk, hik, rfl, hsk⟩ := hrel
    by_cases hlt : k < en
    · obtain ⟨b, off, rfl, hc⟩ := HT.out k (by omega)
      cases hb : isBl (z k) with
      | true =>
        have HS : Hid (scan isBl z en s = scan isBl z en (k + 1)) := hsk.out.trans (scan_go hlt hb)
        clear hsk
        go_wp2_with (go_at_call 39; refine (isBlk_any _ _).mono ?_; rintro e w' ⟨rfl, rfl⟩)
        go_round
        case rel => exact ⟨k + 1, by omega, by omega, by go_num, HS⟩
        case measure => simp [intOf]; omega
      | false =>
        have HS : Hid (scan isBl z en s = k) := hsk.out.trans (scan_off hb)
        clear hsk
        go_wp2_with (go_at_call 39; refine (isBlk_any _ _).mono ?_; rintro e w' ⟨rfl, rfl⟩)
        go_ret
        exact ⟨ret_int (by rw [HS.out]), rfl⟩
    · have HS : Hid (scan isBl z en s = k) := hsk.out.trans (scan_end (by omega))
      clear hsk
      go_wp2_with (go_at_call 39; refine (isBlk_any _ _).mono ?_; rintro e w' ⟨rfl, rfl⟩)
      go_ret
      exact ⟨ret_int (by rw [HS.out]), rfl⟩

end Go.Proofs.Qxb6602011a

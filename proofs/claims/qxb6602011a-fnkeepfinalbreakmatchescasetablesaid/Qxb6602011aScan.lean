import Derived.Test.Qxb6602011aPlain
import Derived.Test.Qxb6602011aProg
import Derived.WalkKit
namespace Go.Proofs.Qxb6602011a
open Go.RowKit
open Plain

/-- What a walk is told of a text: the slice at a holds the n bytes z. -/
def Text (w : World) (a : Option Addr) (n : Nat) (z : Nat → Int) : Prop :=
  ∀ k, k < n → ∃ b off, a = some ⟨b, off, none⟩ ∧ w.cell? ⟨b, off + k, none⟩ = some (.int .u8 (z k))

theorem ret_int {k : IntKind} {a b : Int} (h : a = b) : Ending.returned (.int k a) = .returned (.int k b) := by rw [h]
theorem ret_bool {a b : Bool} (h : a = b) : Ending.returned (.bool a) = .returned (.bool b) := by rw [h]

theorem isBlank_any (c : Int) (w : World) :
    Calls Try.prog 48 #[.int .u8 c] w fun e w' => e = .returned (.bool (isBl c)) ∧ w' = w := by
  unfold isBl
  by_cases h : c = 32
  · subst h
    go_enter Try.func48, Try.ntmps48
    go_wp2
    go_ret
    exact ⟨rfl, rfl⟩
  · have h1 : (c == 32) = false := by simpa using h
    go_enter Try.func48, Try.ntmps48
    go_wp2
    all_goals
      go_ret
      exact ⟨by simp [*], rfl⟩

theorem isBreak_any (c : Int) (w : World) :
    Calls Try.prog 43 #[.int .u8 c] w fun e w' => e = .returned (.bool (isBr c)) ∧ w' = w := by
  unfold isBr
  by_cases h : c = 10
  · subst h
    go_enter Try.func43, Try.ntmps43
    go_wp2
    go_ret
    exact ⟨rfl, rfl⟩
  · have h1 : (c == 10) = false := by simpa using h
    go_enter Try.func43, Try.ntmps43
    go_wp2
    all_goals
      go_ret
      exact ⟨by simp [*], rfl⟩

theorem skip_any (a : Option Addr) (n cap : Nat) (z : Nat → Int) (i : Nat) (w : World) (ht : Text w a n z) (hn : n ≤ 1048576) (hi : i ≤ n) :
    Calls Try.prog 41 #[.slice a n cap, .int .i64 i] w fun e w' => e = .returned (.int .i64 (skip z n i)) ∧ w' = w := by
  have HT : Hid (Text w a n z) := ht
  clear ht
  go_enter Try.func41, Try.ntmps41
  go_wp2
  go_loop [1] (fun j => ∃ k : Nat, k ≤ n ∧ i ≤ k ∧ j = .int .i64 k ∧ Hid (skip z n i = skip z n k)) (fun j => n - (intOf j).toNat)
  case atStart => exact ⟨i, hi, Nat.le_refl _, rfl, rfl⟩
  case round =>
    obtain ⟨k, hk, hik, rfl, hsk⟩ := hrel
    by_cases hlt : k < n
    · obtain ⟨b, off, rfl, hc⟩ := HT.out k hlt
      cases hb : isBl (z k) with
      | true =>
        have hs : skip z n k = skip z n (k + 1) := scan_go hlt hb
        have HS : Hid (skip z n i = skip z n (k + 1)) := hsk.out.trans hs
        clear hs hsk
        go_wp2_with (go_at_call 48; refine (isBlank_any _ _).mono ?_; rintro e w' ⟨rfl, rfl⟩)
        go_round
        case rel => exact ⟨k + 1, by omega, by omega, by go_num, HS⟩
        case measure => simp [intOf]; omega
      | false =>
        have hs : skip z n k = k := scan_off hb
        have HS : Hid (skip z n i = k) := hsk.out.trans hs
        clear hs hsk
        go_wp2_with (go_at_call 48; refine (isBlank_any _ _).mono ?_; rintro e w' ⟨rfl, rfl⟩)
        go_ret
        exact ⟨ret_int (by rw [HS.out]), rfl⟩
    · have hs : skip z n k = k := scan_end (by omega)
      have HS : Hid (skip z n i = k) := hsk.out.trans hs
      clear hs hsk
      go_wp2_with (go_at_call 48; refine (isBlank_any _ _).mono ?_; rintro e w' ⟨rfl, rfl⟩)
      go_ret
      exact ⟨ret_int (by rw [HS.out]), rfl⟩


theorem lineEnd_any (a : Option Addr) (n cap : Nat) (z : Nat → Int) (i : Nat) (w : World) (ht : Text w a n z) (hn : n ≤ 1048576) (hi : i ≤ n) :
    Calls Try.prog 42 #[.slice a n cap, .int .i64 i] w fun e w' => e = .returned (.int .i64 (lineEnd z n i)) ∧ w' = w := by
  have HT : Hid (Text w a n z) := ht
  clear ht
  go_enter Try.func42, Try.ntmps42
  go_wp2
  go_loop [1] (fun j => ∃ k : Nat, k ≤ n ∧ i ≤ k ∧ j = .int .i64 k ∧ Hid (lineEnd z n i = lineEnd z n k)) (fun j => n - (intOf j).toNat)
  case atStart => exact ⟨i, hi, Nat.le_refl _, rfl, rfl⟩
  case round =>
    obtain ⟨k, hk, hik, rfl, hsk⟩ := hrel
    by_cases hlt : k < n
    · obtain ⟨b, off, rfl, hc⟩ := HT.out k hlt
      cases hb : isBr (z k) with
      | true =>
        have hs : lineEnd z n k = k := scan_off (by simp [nBr, hb])
        have HS : Hid (lineEnd z n i = k) := hsk.out.trans hs
        clear hs hsk
        go_wp2_with (go_at_call 43; refine (isBreak_any _ _).mono ?_; rintro e w' ⟨rfl, rfl⟩)
        go_ret
        exact ⟨ret_int (by rw [HS.out]), rfl⟩
      | false =>
        have hs : lineEnd z n k = lineEnd z n (k + 1) := scan_go hlt (by simp [nBr, hb])
        have HS : Hid (lineEnd z n i = lineEnd z n (k + 1)) := hsk.out.trans hs
        clear hs hsk
        go_wp2_with (go_at_call 43; refine (isBreak_any _ _).mono ?_; rintro e w' ⟨rfl, rfl⟩)
        go_round
        case rel => exact ⟨k + 1, by omega, by omega, by go_num, HS⟩
        case measure => simp [intOf]; omega
    · have hs : lineEnd z n k = k := scan_end (by omega)
      have HS : Hid (lineEnd z n i = k) := hsk.out.trans hs
      clear hs hsk
      go_wp2_with (go_at_call 43; refine (isBreak_any _ _).mono ?_; rintro e w' ⟨rfl, rfl⟩)
      go_ret
      exact ⟨ret_int (by rw [HS.out]), rfl⟩

theorem nextLine_any (a : Option Addr) (n cap : Nat) (z : Nat → Int) (i : Nat) (w : World) (ht : Text w a n z) (hn : n ≤ 1048576) (hi : i ≤ n) :
    Calls Try.prog 44 #[.slice a n cap, .int .i64 i] w fun e w' => e = .returned (.int .i64 (nextLine z n i)) ∧ w' = w := by
  have hq : lineEnd z n i ≤ n := lineEnd_le hi
  have HT : Hid (Text w a n z) := ht
  clear ht
  by_cases h1 : lineEnd z n i + 1 < n
  · obtain ⟨b, off, rfl, hc⟩ := HT.out (lineEnd z n i) (by omega)
    obtain ⟨b', off', he, hc'⟩ := HT.out (lineEnd z n i + 1) (by omega)
    simp only [Option.some.injEq, Addr.mk.injEq, and_true] at he
    obtain ⟨rfl, rfl⟩ := he
    go_enter Try.func44, Try.ntmps44
    go_wp2_with (go_at_call 42; refine (lineEnd_any _ _ _ _ _ _ HT.out hn hi).mono ?_; rintro e w' ⟨rfl, rfl⟩)
    all_goals
      go_ret
      refine ⟨ret_int ?_, rfl⟩
      try simp only [beq_eq_false_iff_ne, beq_iff_eq, ne_eq] at *
      unfold nextLine
      split <;> omega
  · go_enter Try.func44, Try.ntmps44
    go_wp2_with (go_at_call 42; refine (lineEnd_any _ _ _ _ _ _ HT.out hn hi).mono ?_; rintro e w' ⟨rfl, rfl⟩)
    all_goals
      go_ret
      refine ⟨ret_int ?_, rfl⟩
      try simp only [beq_eq_false_iff_ne, beq_iff_eq, ne_eq] at *
      unfold nextLine
      split <;> omega

end Go.Proofs.Qxb6602011a

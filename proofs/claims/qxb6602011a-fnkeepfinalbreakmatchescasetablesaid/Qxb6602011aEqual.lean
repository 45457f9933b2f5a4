import Derived.Test.Qxb6602011aScan
import Derived.Deep.QuietTactic
import Derived.BigQuiet
namespace Go.Proofs.Qxb6602011a
open Go.RowKit
open Plain

theorem equal_any (a b : Option Addr) (n c d : Nat) (z : Nat → Int) (w : World) (ha : Text w a n z) (hb : Text w b n z) (hn : n ≤ 1099511627776) :
    Calls Try.prog 19 #[.slice a n c, .slice b n d] w fun e w' => e = .returned (.bool true) ∧ ∃ q, w' = w.drewN q := by
  have HA : Hid (Text w a n z) := ha
  have HB : Hid (Text w b n z) := hb
  clear ha hb
  have hne : ((n : Int) != n) = false := by simp
  go_enter Try.func19, Try.ntmps19
  go_wp2
  go_loopw [5] (fun i wr => ∃ k q : Nat, k ≤ n ∧ i = .int .i64 k ∧ wr = w.drewN q) (fun i _ => n - (intOf i).toNat)
  case atStart => exact ⟨0, 0, Nat.zero_le _, rfl, rfl⟩
  case round =>
    obtain ⟨k, q, hk, rfl, rfl⟩ := hrel
    by_cases hlt : k < n
    · obtain ⟨b1, off1, rfl, hc1⟩ := HA.out k hlt
      obtain ⟨b2, off2, rfl, hc2⟩ := HB.out k hlt
      have hlt' : (k : Int) < n := by omega
      have hz : (z k != z k) = false := by simp
      go_wp2
      go_quiet (fail)
      go_wp2
      go_roundw
      case rel => exact ⟨k + 1, q + nq, by omega, by go_num, by simp⟩
      case measure => simp [intOf]; omega
    · go_wp2
      go_ret
      exact ⟨rfl, _, rfl⟩

end Go.Proofs.Qxb6602011a

import Derived.Test.Qxb6603512aApply
namespace Go.Proofs.Qxb6603512a
open Go.RowKit
open Plain

theorem div_succ (a b : Nat) : a / 2 ^ b / 2 = a / 2 ^ (b + 1) := by rw [Nat.div_div_eq_div_mul, Nat.pow_succ]

theorem b_lt {a b : Nat} (ha : a < 18446744073709551616) (h : a / 2 ^ b ≠ 0) : b < 64 := by
  by_cases c : b < 64
  · exact c
  · exfalso
    apply h
    have : 2 ^ 64 ≤ 2 ^ b := Nat.pow_le_pow_right (by decide) (by omega)
    exact Nat.div_eq_of_lt (by omega)

/-- What zzPermShape gives. -/
structure Shape (n h : Nat) : Prop where
  one : 1 ≤ h
  le : h ≤ 32
  fits : n ≤ 2 ^ h * 2 ^ h

theorem shape_of {n b h : Nat} (hn : 1 ≤ n) (h1 : 1 ≤ h) (h2 : h ≤ 32) (hb : b ≤ h + h) (hz : (n - 1) / 2 ^ b = 0) : Shape n h := by
  refine ⟨h1, h2, ?_⟩
  rw [← Nat.pow_add]
  have h3 : 2 ^ b ≤ 2 ^ (h + h) := Nat.pow_le_pow_right (by decide) hb
  have h4 : n - 1 < 2 ^ b := by
    rcases (Nat.div_eq_zero_iff).1 hz with q | q
    · have := Nat.two_pow_pos b; omega
    · exact q
  omega

theorem mask_val (h : Nat) (hh : h ≤ 32) : IntKind.u64.wrap (IntKind.u64.wrap ((2 : Int) ^ h) - 1) = ((2 ^ h - 1 : Nat) : Int) := by
  have hp : 2 ^ h ≤ 2 ^ 32 := Nat.pow_le_pow_right (by decide) hh
  have hp1 := Nat.two_pow_pos h
  have e : (2 : Int) ^ h = ((2 ^ h : Nat) : Int) := by rw [Int.natCast_pow]; rfl
  rw [e, IntKind.wrap_u64, IntKind.wrap_u64]
  omega

theorem pair_val {a b c d : Int} (h1 : a = c) (h2 : b = d) : Ending.returned (.tuple #[.int .u64 a, .int .u64 b]) = .returned (.tuple #[.int .u64 c, .int .u64 d]) := by rw [h1, h2]

set_option maxHeartbeats 400000 in
theorem shape_any (n : Nat) (hn1 : 1 ≤ n) (hn2 : n < 18446744073709551616) (w : World) :
    Calls Try.prog 11 #[.int .u64 n] w fun e w' => ∃ h : Nat, e = .returned (.tuple #[.int .u64 h, .int .u64 ((2 ^ h - 1 : Nat) : Int)]) ∧ Shape n h ∧ w' = w := by
  go_enter Try.func11, Try.ntmps11
  go_wp2
  go_loop [4, 5] (fun vb vv => ∃ b v : Nat, b ≤ 64 ∧ v < 18446744073709551616 ∧ vb = .int .i64 b ∧ vv = .int .u64 v ∧ Hid (v = (n - 1) / 2 ^ b)) (fun vb _ => 64 - (intOf vb).toNat)
  case atStart => exact ⟨0, n - 1, by omega, by omega, rfl, val_u64 (by omega), by show n - 1 = _; simp⟩
  case round =>
    obtain ⟨b, v, hb, hv, rfl, rfl, hvv⟩ := hrel
    by_cases hz : v = 0
    · subst hz
      have HZ : Hid ((n - 1) / 2 ^ b = 0) := hvv.out.symm
      clear hvv
      by_cases hb2 : b < 2
      · go_wp2
        go_ret2
        exact ⟨1, rfl, shape_of hn1 (Nat.le_refl _) (by omega) (by omega) HZ.out, rfl⟩
      · by_cases hodd : b % 2 = 1
        · have hoddB : (((b : Int) % 2) == 1) = true := by simp; omega
          go_wp2
          go_ret2
          exact ⟨(b + 1) / 2, pair_val (by omega) (mask_val _ (by omega)), shape_of hn1 (by omega) (by omega) (by omega) HZ.out, rfl⟩
        · have hoddB : (((b : Int) % 2) == 1) = false := by simp; omega
          go_wp2
          go_ret2
          exact ⟨b / 2, pair_val (by omega) (mask_val _ (by omega)), shape_of hn1 (by omega) (by omega) (by omega) HZ.out, rfl⟩
    · have hlt := b_lt (b := b) (a := n - 1) (by omega) (by rw [← hvv.out]; exact hz)
      have hne : ((v : Int) != 0) = true := by simp; omega
      have HV : Hid (v / 2 = (n - 1) / 2 ^ (b + 1)) := by
        show v / 2 = _
        rw [hvv.out, div_succ]
      clear hvv hz
      go_wp2
      go_round
      case rel => exact ⟨b + 1, v / 2, by omega, by omega, by go_num, val_u64 (by omega), HV⟩
      case measure => simp [intOf]; omega

end Go.Proofs.Qxb6603512a

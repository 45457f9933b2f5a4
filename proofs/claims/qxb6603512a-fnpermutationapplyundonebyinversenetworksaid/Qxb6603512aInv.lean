import Derived.Test.Qxb6603512aMix
namespace Go.Proofs.Qxb6603512a
open Go.RowKit
open Plain

theorem val_u64 {a b : Int} (h : a = b) : Value.int .u64 a = .int .u64 b := by rw [h]

theorem or_wrap (h l r : Nat) (hl : l < 2 ^ h) (hr : r < 2 ^ h) (hh : h ≤ 32) : bits .or .u64 (IntKind.u64.wrap ((l : Int) * 2 ^ h)) (r : Int) = ((whole (2 ^ h) (l, r) : Nat) : Int) := by
  refine or_step h l r hl hr hh _ ?_
  have hp : 2 ^ h ≤ 2 ^ 32 := Nat.pow_le_pow_right (by decide) hh
  have h1 : l * 2 ^ h < 2 ^ h * 2 ^ h := Nat.mul_lt_mul_of_pos_right hl (Nat.two_pow_pos h)
  have hsq : 2 ^ h * 2 ^ h ≤ 2 ^ 32 * 2 ^ 32 := Nat.mul_le_mul hp hp
  have e1 : (l : Int) * 2 ^ h = ((l * 2 ^ h : Nat) : Int) := by rw [Int.natCast_mul, Int.natCast_pow]; rfl
  rw [e1, IntKind.wrap_u64]
  omega

set_option maxHeartbeats 400000 in
theorem finv_any (h m z : Nat) (hm : m = 2 ^ h - 1) (hh1 : 1 ≤ h) (hh2 : h ≤ 32) (hz : z < 2 ^ h * 2 ^ h) (w : World) :
    Calls Try.prog 16 #[.int .u64 h, .int .u64 m, .int .u64 z] w fun e w' => e = .returned (.int .u64 (fi (2 ^ h) (F h) z)) ∧ w' = w := by
  have hp : 2 ^ h ≤ 2 ^ 32 := Nat.pow_le_pow_right (by decide) hh2
  have hsq : 2 ^ h * 2 ^ h ≤ 2 ^ 32 * 2 ^ 32 := Nat.mul_le_mul hp hp
  have hz2 : z < 18446744073709551616 := by omega
  have hm2 : m < 4294967296 := by omega
  have hsp := small_parts (Nat.two_pow_pos h) hz
  have HS : Hid (small (2 ^ h) (parts (2 ^ h) z)) := hsp
  have HM : Hid (m = 2 ^ h - 1) := hm
  have HFI : Hid (fi (2 ^ h) (F h) z = whole (2 ^ h) (unrs (F h) 4 (parts (2 ^ h) z))) := fi_unrs _ _ _
  have e1 : Hid ((z : Int) / 2 ^ h = ((z / 2 ^ h : Nat) : Int)) := by
    show (z : Int) / 2 ^ h = ((z / 2 ^ h : Nat) : Int)
    rw [Int.natCast_ediv, Int.natCast_pow]; rfl
  have e2 : Hid (bits BinOp.and IntKind.u64 (z : Int) (m : Int) = ((z % 2 ^ h : Nat) : Int)) := by
    show bits BinOp.and IntKind.u64 (z : Int) (m : Int) = _
    rw [hm, and_mask _ h (by omega) (by omega) hh2, Int.toNat_natCast]
  have HP : Hid (2 ^ h ≤ 4294967296) := hp
  clear hm hsp hz hp hsq
  go_enter Try.func16, Try.ntmps16
  go_wp2
  go_loop [7, 8, 9] (fun vl vr vk => ∃ (j l r : Nat), j ≤ 4 ∧ l < 4294967296 ∧ r < 4294967296 ∧ vk = .int .i64 ((j : Int) - 1) ∧ vl = .int .u64 l ∧ vr = .int .u64 r ∧ Hid (small (2 ^ h) (l, r)) ∧ Hid (unrs (F h) 4 (parts (2 ^ h) z) = unrs (F h) j (l, r))) (fun _ _ vk => (intOf vk + 1).toNat)
  case atStart => exact ⟨4, z / 2 ^ h, z % 2 ^ h, Nat.le_refl _, Nat.lt_of_lt_of_le HS.out.1 HP.out, Nat.lt_of_lt_of_le HS.out.2 HP.out, rfl, val_u64 e1.out, val_u64 e2.out, HS, rfl⟩
  case round =>
    obtain ⟨j, l, r, hj, hl, hr, rfl, rfl, rfl, hsm, hun⟩ := hrel
    cases j with
    | zero =>
      go_wp2
      go_ret
      refine ⟨?_, rfl⟩
      rw [HFI.out, hun.out]
      exact congrArg Ending.returned (val_u64 (or_wrap h l r hsm.out.1 hsm.out.2 hh2))
    | succ j =>
      go_wp2_with (go_at_call 19; refine (zzmix_any _ _).mono ?_; rintro e w' ⟨rfl, rfl⟩)
      go_round
      case rel =>
        refine ⟨j, r ^^^ F h l j, l, by omega, ?_, hl, rfl, val_u64 ?_, rfl, small_unr (F_lt h) j hsm.out, hun.out⟩
        · exact Nat.lt_of_lt_of_le (small_unr (F_lt h) j hsm.out).1 HP.out
        · rw [HM.out]
          refine xor_step h l r j _ ?_ hh2 hsm.out.2
          unfold argI
          rw [IntKind.wrap_u64, IntKind.wrap_u64]
          omega
      case measure => simp [intOf]

end Go.Proofs.Qxb6603512a

import Derived.Test.Qxb6603512aInv
namespace Go.Proofs.Qxb6603512a
open Go.RowKit
open Plain

theorem grown_drewN {W w : World} {q : Nat} (h : Grown W w) : Grown W (w.drewN q) := h

set_option maxHeartbeats 400000 in
theorem fe_any (n h m x : Nat) (hm : m = 2 ^ h - 1) (hh1 : 1 ≤ h) (hh2 : h ≤ 32) (hx : x < 2 ^ h * 2 ^ h) (w : World) :
    Calls Try.prog 18 #[.agg #[.int .u64 n, .int .u64 h, .int .u64 m], .int .u64 x] w fun e w' => e = .returned (.int .u64 (fe (2 ^ h) (F h) x)) ∧ ∃ q, w' = (w.alloc (.cells #[.int .u64 n, .int .u64 h, .int .u64 m] 38)).drewN q := by
  have hp : 2 ^ h ≤ 2 ^ 32 := Nat.pow_le_pow_right (by decide) hh2
  have hsq : 2 ^ h * 2 ^ h ≤ 2 ^ 32 * 2 ^ 32 := Nat.mul_le_mul hp hp
  have hz2 : x < 18446744073709551616 := by omega
  have hm2 : m < 4294967296 := by omega
  have hsp := small_parts (Nat.two_pow_pos h) hx
  have HS : Hid (small (2 ^ h) (parts (2 ^ h) x)) := hsp
  have HM : Hid (m = 2 ^ h - 1) := hm
  have HFE : Hid (fe (2 ^ h) (F h) x = whole (2 ^ h) (rnds (F h) 4 0 (parts (2 ^ h) x))) := fe_rnds _ _ _
  have e1 : Hid ((x : Int) / 2 ^ h = ((x / 2 ^ h : Nat) : Int)) := by
    show (x : Int) / 2 ^ h = ((x / 2 ^ h : Nat) : Int)
    rw [Int.natCast_ediv, Int.natCast_pow]; rfl
  have e2 : Hid (bits BinOp.and IntKind.u64 (x : Int) (m : Int) = ((x % 2 ^ h : Nat) : Int)) := by
    show bits BinOp.and IntKind.u64 (x : Int) (m : Int) = _
    rw [hm, and_mask _ h (by omega) (by omega) hh2, Int.toNat_natCast]
  have HP : Hid (2 ^ h ≤ 4294967296) := hp
  clear hm hsp hx hp hsq
  go_enter Try.func18, Try.ntmps18
  go_wp2
  go_quiet (fail)
  go_wp2
  generalize hW0 : w.alloc (.cells #[.int .u64 (n : Int), .int .u64 (h : Int), .int .u64 (m : Int)] 38) = W0
  have hcm : W0.cell? ⟨w.heap.size, 2, none⟩ = some (.int .u64 m) := by rw [← hW0]; simp
  have hch : W0.cell? ⟨w.heap.size, 1, none⟩ = some (.int .u64 h) := by rw [← hW0]; simp
  have HW0 : Hid (w.alloc (.cells #[.int .u64 (n : Int), .int .u64 (h : Int), .int .u64 (m : Int)] 38) = W0) := hW0
  clear hW0
  go_loopw [5, 6, 16] (fun vl vr vk wr => ∃ (j l r q : Nat), j ≤ 4 ∧ l < 4294967296 ∧ r < 4294967296 ∧ vk = .int .u64 j ∧ vl = .int .u64 l ∧ vr = .int .u64 r ∧ Hid (wr = W0.drewN q) ∧ Hid (small (2 ^ h) (l, r)) ∧ Hid (rnds (F h) 4 0 (parts (2 ^ h) x) = rnds (F h) (4 - j) j (l, r))) (fun _ _ vk _ => 4 - (intOf vk).toNat)
  case atStart => exact ⟨0, x / 2 ^ h, x % 2 ^ h, nq, Nat.zero_le _, Nat.lt_of_lt_of_le HS.out.1 HP.out, Nat.lt_of_lt_of_le HS.out.2 HP.out, rfl, val_u64 e1.out, val_u64 e2.out, rfl, HS, rfl⟩
  case round =>
    obtain ⟨j, l, r, q, hj, hl, hr, rfl, rfl, rfl, hwr, hsm, hun⟩ := hrel
    have hcm1 : wr.cell? ⟨w.heap.size, 2, none⟩ = some (.int .u64 m) := by rw [hwr.out]; exact hcm
    have hch1 : wr.cell? ⟨w.heap.size, 1, none⟩ = some (.int .u64 h) := by rw [hwr.out]; exact hch
    by_cases hlt : j < 4
    · go_wp2
      go_quiet ((go_at_call 20; exact Calls.quiet_of_same (mix_any _ _)))
      go_wp2
      go_roundw
      case rel =>
        refine ⟨j + 1, r, l ^^^ F h r j, q + nq, by omega, hr, ?_, by go_num, rfl, val_u64 ?_, by rw [hwr.out, World.drewN_drewN]; rfl, small_rnd (F_lt h) j hsm.out, ?_⟩
        · exact Nat.lt_of_lt_of_le (small_rnd (F_lt h) j hsm.out).2 HP.out
        · rw [HM.out]
          refine xor_step h r l j _ ?_ hh2 hsm.out.1
          unfold argI
          rw [IntKind.wrap_u64, IntKind.wrap_u64]
          omega
        · show rnds (F h) 4 0 (parts (2 ^ h) x) = _
          rw [hun.out, show 4 - j = (4 - (j + 1)) + 1 from by omega]; rfl
      case measure => simp [intOf]; omega
    · obtain rfl : j = 4 := by omega
      go_wp2
      go_ret
      refine ⟨?_, q, by rw [hwr.out, ← HW0.out]⟩
      rw [HFE.out, hun.out]
      exact congrArg Ending.returned (val_u64 (or_wrap h l r hsm.out.1 hsm.out.2 hh2))

end Go.Proofs.Qxb6603512a

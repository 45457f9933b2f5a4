import Derived.Test.Qxb6603512aFe
import Derived.Deep.LoopGhost
namespace Go.Proofs.Qxb6603512a
open Go.RowKit
open Plain

/-- The box of a permutation, in the world. -/
structure Box (w : World) (b n h m : Nat) : Prop where
  lt : b < w.heap.size
  c0 : w.cell? ⟨b, 0, none⟩ = some (.int .u64 n)
  c1 : w.cell? ⟨b, 1, none⟩ = some (.int .u64 h)
  c2 : w.cell? ⟨b, 2, none⟩ = some (.int .u64 m)

theorem Box.more {w : World} {b n h m : Nat} (hb : Box w b n h m) (c : Array Value) (t : TypeId) (q : Nat) : Box ((w.alloc (.cells c t)).drewN q) b n h m := by
  obtain ⟨h1, h2, h3, h4⟩ := hb
  exact ⟨by simp; omega, by simp [World.cell?_alloc_lt, h1, h2], by simp [World.cell?_alloc_lt, h1, h3], by simp [World.cell?_alloc_lt, h1, h4]⟩

set_option maxHeartbeats 400000 in
theorem apply_any (n h m x k : Nat) (hm : m = 2 ^ h - 1) (hh1 : 1 ≤ h) (hh2 : h ≤ 32) (hn : n ≤ 2 ^ h * 2 ^ h) (hx : x < n) (hk : First (fe (2 ^ h) (F h)) (2 ^ h * 2 ^ h) n x k) (w : World) :
    Calls Try.prog 15 #[.agg #[.int .u64 n, .int .u64 h, .int .u64 m], .int .u64 x] w fun e w' => e = .returned (.int .u64 (iter (fe (2 ^ h) (F h)) k x)) ∧ Grown w w' := by
  have hX : ∀ i, iter (fe (2 ^ h) (F h)) i x < 2 ^ h * 2 ^ h := iter_lt (fe_lt (F_lt h)) (by omega)
  have HC : Hid (∀ i w, Calls Try.prog 18 #[.agg #[.int .u64 n, .int .u64 h, .int .u64 m], .int .u64 (iter (fe (2 ^ h) (F h)) i x)] w fun e w' => e = .returned (.int .u64 (iter (fe (2 ^ h) (F h)) (i + 1) x)) ∧ ∃ q, w' = (w.alloc (.cells #[.int .u64 n, .int .u64 h, .int .u64 m] 38)).drewN q) := fun i w => fe_any n h m _ hm hh1 hh2 (hX i) w
  have h1 := hk.one
  have hhit := hk.hit
  have hmiss : Hid (∀ j, 1 ≤ j → j < k → n ≤ iter (fe (2 ^ h) (F h)) j x) := hk.miss
  have e0 : iter (fe (2 ^ h) (F h)) 0 x = x := rfl
  generalize hXX : (fun i => iter (fe (2 ^ h) (F h)) i x) = X at *
  have eX : ∀ i, iter (fe (2 ^ h) (F h)) i x = X i := fun i => by rw [← hXX]
  simp only [eX] at *
  clear hXX hX hk hn hm
  go_enter Try.func15, Try.ntmps15
  go_wp2
  go_loopg [1] k (fun g v wr => ∃ i : Nat, i + g = k ∧ 1 ≤ g ∧ v = .int .u64 (X i) ∧ Hid (Box wr w.heap.size n h m) ∧ Hid (Grown w wr))
  case atStart => exact ⟨0, by omega, h1, by rw [e0], ⟨by simp, by simp, by simp, by simp⟩, (Grown.refl _).alloc _ _⟩
  case round =>
    obtain ⟨i, hi, hg, rfl, hbox, hgr⟩ := hrel
    obtain ⟨b0, b1, b2, b3⟩ := hbox.out
    go_wp2_with fail
    refine (HC.out i wr).mono ?_
    rintro _ w2 ⟨rfl, q, hw2⟩
    have HB2 : Hid (Box w2 w.heap.size n h m) := by
      show Box w2 w.heap.size n h m
      rw [hw2]; exact hbox.out.more _ _ _
    have HG2 : Hid (Grown w w2) := by
      show Grown w w2
      rw [hw2]; exact grown_drewN (hgr.out.alloc _ _)
    clear hw2 b0 b1 b2 b3 hbox hgr
    obtain ⟨b0, b1, b2, b3⟩ := HB2.out
    by_cases hlast : i + 1 = k
    · have hlt : X (i + 1) < n := by rw [hlast]; exact hhit
      have HL : Hid (i + 1 = k) := hlast
      clear hlast hi e0
      go_wp2
      go_ret
      exact ⟨congrArg Ending.returned (val_u64 (by rw [HL.out])), HG2.out⟩
    · have hge : n ≤ X (i + 1) := hmiss.out (i + 1) (by omega) (by omega)
      have HI : Hid (i + gk = k) := hi
      have HL : Hid (¬ i + 1 = k) := hlast
      clear hlast hi e0
      go_wp2
      go_roundg (gk - 1)
      case measure => omega
      case rel =>
        have h2 := HI.out
        have h3 := HL.out
        exact ⟨i + 1, by omega, by omega, rfl, HB2, HG2⟩

theorem zzapply_any (n h m x k : Nat) (hm : m = 2 ^ h - 1) (hh1 : 1 ≤ h) (hh2 : h ≤ 32) (hn : n ≤ 2 ^ h * 2 ^ h) (hx : x < n) (hk : First (fe (2 ^ h) (F h)) (2 ^ h * 2 ^ h) n x k) (w : World) :
    Calls Try.prog 12 #[.int .u64 n, .int .u64 h, .int .u64 m, .int .u64 x] w fun e w' => e = .returned (.int .u64 (iter (fe (2 ^ h) (F h)) k x)) ∧ Grown w w' := by
  have HA : Hid (∀ w, Calls Try.prog 15 #[.agg #[.int .u64 n, .int .u64 h, .int .u64 m], .int .u64 x] w fun e w' => e = .returned (.int .u64 (iter (fe (2 ^ h) (F h)) k x)) ∧ Grown w w') := apply_any n h m x k hm hh1 hh2 hn hx hk
  clear hm hn hk
  generalize iter (fe (2 ^ h) (F h)) k x = Y at *
  go_enter Try.func12, Try.ntmps12
  go_wp2_with fail
  refine (HA.out w).mono ?_
  rintro _ w1 ⟨rfl, hg⟩
  have HG : Hid (Grown w w1) := hg
  clear hg
  go_wp2
  go_ret
  exact ⟨rfl, HG.out⟩

set_option maxHeartbeats 400000 in
theorem invWalk_any (n h m y k : Nat) (hm : m = 2 ^ h - 1) (hh1 : 1 ≤ h) (hh2 : h ≤ 32) (hn : n ≤ 2 ^ h * 2 ^ h) (hy : y < n) (hk : First (fi (2 ^ h) (F h)) (2 ^ h * 2 ^ h) n y k) (w : World) :
    Calls Try.prog 13 #[.int .u64 n, .int .u64 h, .int .u64 m, .int .u64 y] w fun e w' => e = .returned (.tuple #[.int .u64 (iter (fi (2 ^ h) (F h)) k y), .bool true]) ∧ w' = w := by
  have hp : 2 ^ h ≤ 2 ^ 32 := Nat.pow_le_pow_right (by decide) hh2
  have hp1 := Nat.two_pow_pos h
  have hsq : 2 ^ h * 2 ^ h ≤ 2 ^ 32 * 2 ^ 32 := Nat.mul_le_mul hp hp
  have hX : ∀ i, iter (fi (2 ^ h) (F h)) i y < 2 ^ h * 2 ^ h := iter_lt (fi_lt (F_lt h)) (by omega)
  have HC : Hid (∀ i w, Calls Try.prog 16 #[.int .u64 h, .int .u64 m, .int .u64 (iter (fi (2 ^ h) (F h)) i y)] w fun e w' => e = .returned (.int .u64 (iter (fi (2 ^ h) (F h)) (i + 1) y)) ∧ w' = w) := fun i w => finv_any h m _ hm hh1 hh2 (hX i) w
  have h1 := hk.one
  have hkD := hk.le
  have hhit := hk.hit
  have hmiss : Hid (∀ j, 1 ≤ j → j < k → n ≤ iter (fi (2 ^ h) (F h)) j y) := hk.miss
  have hm2 : m < 4294967296 := by omega
  -- domMax
  have hdom : bits .or .u64 (IntKind.u64.wrap ((m : Int) * 2 ^ h)) (m : Int) = ((2 ^ h * 2 ^ h - 1 : Nat) : Int) := by
    have hlt : m < 2 ^ h := by omega
    rw [or_wrap h m m hlt hlt hh2]
    unfold whole
    simp only
    congr 1
    have e1 : 2 ^ h * 2 ^ h = (2 ^ h - 1) * 2 ^ h + 2 ^ h := by
      rw [Nat.sub_mul, Nat.one_mul, Nat.sub_add_cancel (Nat.le_mul_of_pos_left _ hp1)]
    rw [hm]
    omega
  have hD1 : 1 ≤ 2 ^ h * 2 ^ h := Nat.mul_pos hp1 hp1
  generalize hDD : 2 ^ h * 2 ^ h = D at *
  have e0 : iter (fi (2 ^ h) (F h)) 0 y = y := rfl
  generalize hXX : (fun i => iter (fi (2 ^ h) (F h)) i y) = X at *
  have eX : ∀ i, iter (fi (2 ^ h) (F h)) i y = X i := fun i => by rw [← hXX]
  simp only [eX] at *
  have HDOM : Hid (bits .or .u64 (IntKind.u64.wrap ((m : Int) * 2 ^ h)) (m : Int) = ((D - 1 : Nat) : Int)) := hdom
  have hD2 : D ≤ 18446744073709551616 := by omega
  clear hXX hX hk hn hm hDD hdom hp hp1 hsq eX
  go_enter Try.func13, Try.ntmps13
  go_wp2
  rw [HDOM.out]
  go_loop [11, 12] (fun vz vs => ∃ i : Nat, i < k ∧ vs = .int .u64 i ∧ vz = .int .u64 (X i)) (fun _ vs => k - (intOf vs).toNat)
  case atStart => exact ⟨0, by omega, rfl, by rw [e0]⟩
  case round =>
    obtain ⟨i, hi, rfl, rfl⟩ := hrel
    by_cases hlast : i + 1 = k
    · have hlt : X (i + 1) < n := by rw [hlast]; exact hhit
      have HL : Hid (i + 1 = k) := hlast
      clear hlast e0
      go_wp2_with (go_at_call 16; refine (HC.out i _).mono ?_; rintro e w' ⟨rfl, rfl⟩)
      go_ret2
      refine ⟨?_, rfl⟩
      rw [← HL.out]; rfl
    · have hge : n ≤ X (i + 1) := hmiss.out (i + 1) (by omega) (by omega)
      have hb : ((i : Int) == ((D - 1 : Nat) : Int)) = false := by simp; omega
      have hik : i + 1 < k := by omega
      clear hlast e0
      go_wp2_with (go_at_call 16; refine (HC.out i _).mono ?_; rintro e w' ⟨rfl, rfl⟩)
      go_round
      case rel => exact ⟨i + 1, hik, by go_num, rfl⟩
      case measure => simp [intOf]; omega

end Go.Proofs.Qxb6603512a

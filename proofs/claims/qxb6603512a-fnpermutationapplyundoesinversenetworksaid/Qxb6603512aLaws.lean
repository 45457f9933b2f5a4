import Derived.Test.Qxb6603512aShape
namespace Go.Proofs.Qxb6603512a
open Go.RowKit
open Plain

set_option maxHeartbeats 400000 in
theorem undone_law (n h m x : Nat) (hn : n < 18446744073709551616) (w : World) :
    Calls Try.prog 5 #[.int .u64 n, .int .u64 h, .int .u64 m, .int .u64 x] w fun e w' => e = .returned (.bool true) ∧ Grown w w' := by
  by_cases h0 : n = 0
  · subst h0
    go_enter Try.func5, Try.ntmps5
    go_wp2
    go_ret
    exact ⟨rfl, Grown.refl _⟩
  have hn0 : ((n : Int) == 0) = false := by simp; omega
  have hn1 : 1 ≤ n := by omega
  go_enter Try.func5, Try.ntmps5
  go_wp2_with fail
  refine (shape_any n hn1 hn w).mono ?_
  rintro _ _ ⟨h', rfl, hsh, rfl⟩
  have HS : Hid (Shape n h') := hsh
  have hl1 := hsh.one
  have hl2 := hsh.le
  clear hsh
  by_cases e1 : h = h'
  · subst e1
    have e1b : ((h : Int) != h) = false := by simp
    by_cases e2 : m = 2 ^ h - 1
    · have HM : Hid (m = 2 ^ h - 1) := e2
      rw [← e2]
      have e2b : ((m : Int) != m) = false := by simp
      clear e2
      by_cases e3 : n ≤ x
      · go_wp2
        go_ret
        exact ⟨rfl, Grown.refl _⟩
      · have hxn : x < n := by omega
        obtain ⟨k, hk⟩ := first_exists (fe_lt (F_lt h)) (fi_fe (F_lt h)) HS.out.fits hxn
        obtain ⟨hk2, hback⟩ := first_back (fe_lt (F_lt h)) (fi_fe (F_lt h)) HS.out.fits hxn hk
        have hA := zzapply_any n h m x k HM.out hl1 hl2 HS.out.fits hxn hk
        have hB := invWalk_any n h m _ k HM.out hl1 hl2 HS.out.fits hk.hit hk2
        rw [hback] at hB
        have hyn := hk.hit
        generalize iter (fe (2 ^ h) (F h)) k x = Y at *
        have HA : Hid (∀ w, Calls Try.prog 12 #[.int .u64 n, .int .u64 h, .int .u64 m, .int .u64 x] w fun e w' => e = .returned (.int .u64 Y) ∧ Grown w w') := hA
        have HB : Hid (∀ w, Calls Try.prog 13 #[.int .u64 n, .int .u64 h, .int .u64 m, .int .u64 Y] w fun e w' => e = .returned (.tuple #[.int .u64 x, .bool true]) ∧ w' = w) := hB
        clear hA hB hk hk2 hback
        go_wp2_with fail
        refine (HA.out _).mono ?_
        rintro _ w1 ⟨rfl, hg⟩
        have HG : Hid (Grown _ w1) := hg
        clear hg
        go_wp2_with fail
        refine (HB.out _).mono ?_
        rintro _ w2 ⟨rfl, rfl⟩
        go_wp2
        go_ret
        exact ⟨rfl, HG.out⟩
    · have e2b : ((m : Int) != ((2 ^ h - 1 : Nat) : Int)) = true := by simp; omega
      go_wp2
      go_ret
      exact ⟨rfl, Grown.refl _⟩
  · have e1b : ((h : Int) != h') = true := by simp; omega
    go_wp2
    go_ret
    exact ⟨rfl, Grown.refl _⟩

set_option maxHeartbeats 400000 in
theorem undoes_law (n h m x : Nat) (hn : n < 18446744073709551616) (w : World) :
    Calls Try.prog 6 #[.int .u64 n, .int .u64 h, .int .u64 m, .int .u64 x] w fun e w' => e = .returned (.bool true) ∧ Grown w w' := by
  by_cases h0 : n = 0
  · subst h0
    go_enter Try.func6, Try.ntmps6
    go_wp2
    go_ret
    exact ⟨rfl, Grown.refl _⟩
  have hn0 : ((n : Int) == 0) = false := by simp; omega
  have hn1 : 1 ≤ n := by omega
  go_enter Try.func6, Try.ntmps6
  go_wp2_with fail
  refine (shape_any n hn1 hn w).mono ?_
  rintro _ _ ⟨h', rfl, hsh, rfl⟩
  have HS : Hid (Shape n h') := hsh
  have hl1 := hsh.one
  have hl2 := hsh.le
  clear hsh
  by_cases e1 : h = h'
  · subst e1
    have e1b : ((h : Int) != h) = false := by simp
    by_cases e2 : m = 2 ^ h - 1
    · have HM : Hid (m = 2 ^ h - 1) := e2
      rw [← e2]
      have e2b : ((m : Int) != m) = false := by simp
      clear e2
      by_cases e3 : n ≤ x
      · go_wp2
        go_ret
        exact ⟨rfl, Grown.refl _⟩
      · have hxn : x < n := by omega
        obtain ⟨k, hk⟩ := first_exists (fi_lt (F_lt h)) (fe_fi (F_lt h)) HS.out.fits hxn
        obtain ⟨hk2, hback⟩ := first_back (fi_lt (F_lt h)) (fe_fi (F_lt h)) HS.out.fits hxn hk
        have hB := invWalk_any n h m x k HM.out hl1 hl2 HS.out.fits hxn hk
        have hA := zzapply_any n h m _ k HM.out hl1 hl2 HS.out.fits hk.hit hk2
        rw [hback] at hA
        have hyn := hk.hit
        generalize iter (fi (2 ^ h) (F h)) k x = Y at *
        have HA : Hid (∀ w, Calls Try.prog 12 #[.int .u64 n, .int .u64 h, .int .u64 m, .int .u64 Y] w fun e w' => e = .returned (.int .u64 x) ∧ Grown w w') := hA
        have HB : Hid (∀ w, Calls Try.prog 13 #[.int .u64 n, .int .u64 h, .int .u64 m, .int .u64 x] w fun e w' => e = .returned (.tuple #[.int .u64 Y, .bool true]) ∧ w' = w) := hB
        clear hA hB hk hk2 hback
        go_wp2_with fail
        refine (HB.out _).mono ?_
        rintro _ w2 ⟨rfl, rfl⟩
        go_wp2_with fail
        refine (HA.out _).mono ?_
        rintro _ w1 ⟨rfl, hg⟩
        have HG : Hid (Grown _ w1) := hg
        clear hg
        go_wp2
        go_ret
        exact ⟨rfl, HG.out⟩
    · have e2b : ((m : Int) != ((2 ^ h - 1 : Nat) : Int)) = true := by simp; omega
      go_wp2
      go_ret
      exact ⟨rfl, Grown.refl _⟩
  · have e1b : ((h : Int) != h') = true := by simp; omega
    go_wp2
    go_ret
    exact ⟨rfl, Grown.refl _⟩

end Go.Proofs.Qxb6603512a

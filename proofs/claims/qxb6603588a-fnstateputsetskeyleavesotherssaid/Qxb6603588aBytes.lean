import Derived.Test.Qxb6603588aRun
namespace Go.Proofs.Qxb6603588a
open Go.RowKit Go.Maps

/-- What a zzBytes function says: false, or true and every length is small. -/
def Small (w : World) (n : Nat) (kf vf : Nat → ByteArray) (e : Ending) (w' : World) : Prop :=
  ∃ bb, e = .returned (.bool bb) ∧ w' = w ∧ (bb = true → n ≤ 1048576 ∧ ∀ i, i < n → (kf i).size ≤ 1048576 ∧ (vf i).size ≤ 1048576)
theorem Small.no (w : World) (n : Nat) (kf vf : Nat → ByteArray) : Small w n kf vf (.returned (.bool false)) w := ⟨false, rfl, rfl, fun h => by cases h⟩
theorem Small.yes (w : World) {n : Nat} {kf vf : Nat → ByteArray} (hn : n ≤ 1048576) (h : ∀ i, i < n → (kf i).size ≤ 1048576 ∧ (vf i).size ≤ 1048576) : Small w n kf vf (.returned (.bool true)) w := ⟨true, rfl, rfl, fun _ => ⟨hn, h⟩⟩

set_option maxHeartbeats 400000 in
theorem bytes5_any (a : Option Addr) (n cap : Nat) (kf vf : Nat → ByteArray) (df : Nat → Bool) (s : ByteArray) (w : World) (h : OpsAt w a n kf vf df) (hn : n ≤ 9223372036854775807) (hs : s.size ≤ 9223372036854775807) (hsz : ∀ i, i < n → (kf i).size ≤ maxLen ∧ (vf i).size ≤ maxLen) :
    Calls Try.prog 5 #[.slice a n cap, .string s] w fun e w' => Small w n kf vf e w' := by
  have HO : Hid (OpsAt w a n kf vf df) := h
  have HZ : Hid (∀ i, i < n → (kf i).size ≤ maxLen ∧ (vf i).size ≤ maxLen) := hsz
  clear h hsz
  by_cases hbig : 1048576 < n
  · go_enter Try.func5, Try.ntmps5
    go_wp2
    go_ret
    exact Small.no _ _ _ _
  have hn2 : n ≤ 1048576 := by omega
  go_enter Try.func5, Try.ntmps5
  go_wp2
  go_loop [5, 6] (fun vt vi => ∃ (i t : Nat), i ≤ n ∧ t ≤ 1048576 ∧ vi = .int .i64 i ∧ vt = .int .i64 t ∧ Hid (∀ j, j < i → (kf j).size ≤ 1048576 ∧ (vf j).size ≤ 1048576)) (fun _ vi => n - (intOf vi).toNat)
  case atStart => exact ⟨0, n, Nat.zero_le _, hn2, rfl, rfl, fun j hj => by omega⟩
  case round =>
    obtain ⟨i, t, hin, ht, rfl, rfl, hd⟩ := hrel
    by_cases hlt : i < n
    · obtain ⟨b, off, hae, c0, c1, c2⟩ := HO.out i hlt
      cases hae
      obtain ⟨z1, z2⟩ := HZ.out i hlt
      unfold maxLen at z1 z2
      by_cases k1 : 1048576 < (kf i).size
      · go_wp2
        go_ret
        exact Small.no _ _ _ _
      by_cases k2 : 1048576 < t + (kf i).size
      · go_wp2
        go_ret
        exact Small.no _ _ _ _
      by_cases k3 : 1048576 < (vf i).size
      · go_wp2
        go_ret
        exact Small.no _ _ _ _
      by_cases k4 : 1048576 < t + (kf i).size + (vf i).size
      · go_wp2
        go_ret
        exact Small.no _ _ _ _
      have HD : Hid (∀ j, j < i + 1 → (kf j).size ≤ 1048576 ∧ (vf j).size ≤ 1048576) := by
        intro j hj
        by_cases e : j = i
        · subst e; exact ⟨by omega, by omega⟩
        · exact hd.out j (by omega)
      go_wp2
      go_round
      case rel => exact ⟨i + 1, t + (kf i).size + (vf i).size, by omega, by omega, by go_num, by go_num, HD⟩
      case measure => simp [intOf]; omega
    · obtain rfl : i = n := by omega
      by_cases k1 : 1048576 < s.size
      · go_wp2
        go_ret
        exact Small.no _ _ _ _
      by_cases k2 : 1048576 < t + s.size
      · go_wp2
        go_ret
        exact Small.no _ _ _ _
      go_wp2
      go_ret
      exact Small.yes _ hn2 hd.out

set_option maxHeartbeats 400000 in
theorem opsBytes_any (a : Option Addr) (n cap : Nat) (kf vf : Nat → ByteArray) (df : Nat → Bool) (w : World) (h : OpsAt w a n kf vf df) (hn : n ≤ 1048576) (hsz : ∀ i, i < n → (kf i).size ≤ 1048576 ∧ (vf i).size ≤ 1048576) :
    Calls Try.prog 6 #[.slice a n cap] w fun e w' => ∃ t q : Nat, t ≤ 8388608 ∧ e = .returned (.int .i64 t) ∧ w' = w.drewN q := by
  have HO : Hid (OpsAt w a n kf vf df) := h
  have HZ : Hid (∀ i, i < n → (kf i).size ≤ 1048576 ∧ (vf i).size ≤ 1048576) := hsz
  clear h hsz
  go_enter Try.func6, Try.ntmps6
  go_wp2
  go_loopw [3, 4] (fun vt vi wr => ∃ (i t q : Nat), i ≤ n ∧ t ≤ 2097152 ∧ vi = .int .i64 i ∧ vt = .int .i64 t ∧ Hid (wr = w.drewN q)) (fun _ vi _ => n - (intOf vi).toNat)
  case atStart => exact ⟨0, 0, 0, Nat.zero_le _, by omega, rfl, rfl, rfl⟩
  case round =>
    obtain ⟨i, t, q, hin, ht, rfl, rfl, hwr⟩ := hrel
    by_cases hlt : i < n
    · have hlt' : (i : Int) < (n : Int) := by omega
      obtain ⟨b, off, hae, c0, c1, c2⟩ := HO.out i hlt
      cases hae
      have d0 : wr.cell? ⟨b, off + i * 3, none⟩ = some (.string (kf i)) := by rw [hwr.out]; exact c0
      have d1 : wr.cell? ⟨b, off + i * 3 + 1, none⟩ = some (.string (vf i)) := by rw [hwr.out]; exact c1
      obtain ⟨z1, z2⟩ := HZ.out i hlt
      clear c0 c1 c2
      go_wp2
      go_quiet (fail)
      by_cases kk : 2097152 < t + (40 + (kf i).size + (vf i).size)
      · go_wp2
        go_ret
        exact ⟨t + (40 + (kf i).size + (vf i).size), q + nq, by omega, congrArg Ending.returned (by go_num), by rw [hwr.out, World.drewN_drewN]⟩
      · go_wp2
        go_roundw
        case rel => exact ⟨i + 1, t + (40 + (kf i).size + (vf i).size), q + nq, by omega, by omega, by go_num, by go_num, by rw [hwr.out, World.drewN_drewN]; rfl⟩
        case measure => simp [intOf]; omega
    · go_wp2
      go_ret
      exact ⟨t, q, by omega, rfl, hwr.out⟩

end Go.Proofs.Qxb6603588a

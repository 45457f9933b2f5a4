import Derived.Test.Qxb6603588aGetLaw
namespace Go.Proofs.Qxb6603588a
open Go.RowKit Go.Maps

set_option maxHeartbeats 400000 in
theorem bytes11_any (a : Option Addr) (n cap : Nat) (kf vf : Nat → ByteArray) (df : Nat → Bool) (s v u : ByteArray) (w : World) (h : OpsAt w a n kf vf df) (hn : n ≤ 9223372036854775807) (hs : s.size ≤ 9223372036854775807) (hv : v.size ≤ 9223372036854775807) (hu : u.size ≤ 9223372036854775807) (hsz : ∀ i, i < n → (kf i).size ≤ maxLen ∧ (vf i).size ≤ maxLen) :
    Calls Try.prog 11 #[.slice a n cap, .string s, .string v, .string u] w fun e w' => Small w n kf vf e w' := by
  have HO : Hid (OpsAt w a n kf vf df) := h
  have HZ : Hid (∀ i, i < n → (kf i).size ≤ maxLen ∧ (vf i).size ≤ maxLen) := hsz
  clear h hsz
  by_cases hbig : 1048576 < n
  · go_enter Try.func11, Try.ntmps11
    go_wp2
    go_ret
    exact Small.no _ _ _ _
  have hn2 : n ≤ 1048576 := by omega
  go_enter Try.func11, Try.ntmps11
  go_wp2
  go_loop [9, 10] (fun vt vi => ∃ (i t : Nat), i ≤ n ∧ t ≤ 1048576 ∧ vi = .int .i64 i ∧ vt = .int .i64 t ∧ Hid (∀ j, j < i → (kf j).size ≤ 1048576 ∧ (vf j).size ≤ 1048576)) (fun _ vi => n - (intOf vi).toNat)
  case atStart => exact ⟨0, n, Nat.zero_le _, hn2, rfl, rfl, fun j hj => by omega⟩
  case round =>
    obtain ⟨i, t, hin, ht, rfl, rfl, hd⟩ := hrel
    by_cases hlt : i < n
    · obtain ⟨b, off, hae, c0, c1, c2⟩ := HO.out i hlt
      cases hae
      obtain ⟨z1, z2⟩ := HZ.out i hlt
      unfold maxLen at z1 z2
      by_cases k1 : 1048576 < (kf i).size
      · go_wp2
        go_ret
        exact Small.no _ _ _ _
      by_cases k2 : 1048576 < t + (kf i).size
      · go_wp2
        go_ret
        exact Small.no _ _ _ _
      by_cases k3 : 1048576 < (vf i).size
      · go_wp2
        go_ret
        exact Small.no _ _ _ _
      by_cases k4 : 1048576 < t + (kf i).size + (vf i).size
      · go_wp2
        go_ret
        exact Small.no _ _ _ _
      have HD : Hid (∀ j, j < i + 1 → (kf j).size ≤ 1048576 ∧ (vf j).size ≤ 1048576) := by
        intro j hj
        by_cases e : j = i
        · subst e; exact ⟨by omega, by omega⟩
        · exact hd.out j (by omega)
      go_wp2
      go_round
      case rel => exact ⟨i + 1, t + (kf i).size + (vf i).size, by omega, by omega, by go_num, by go_num, HD⟩
      case measure => simp [intOf]; omega
    · obtain rfl : i = n := by omega
      by_cases k1 : 1048576 < s.size
      · go_wp2
        go_ret
        exact Small.no _ _ _ _
      by_cases k2 : 1048576 < t + s.size
      · go_wp2
        go_ret
        exact Small.no _ _ _ _
      by_cases k3 : 1048576 < v.size
      · go_wp2
        go_ret
        exact Small.no _ _ _ _
      by_cases k4 : 1048576 < t + s.size + v.size
      · go_wp2
        go_ret
        exact Small.no _ _ _ _
      by_cases k5 : 1048576 < u.size
      · go_wp2
        go_ret
        exact Small.no _ _ _ _
      by_cases k6 : 1048576 < t + s.size + v.size + u.size
      · go_wp2
        go_ret
        exact Small.no _ _ _ _
      go_wp2
      go_ret
      exact Small.yes _ hn2 hd.out

set_option maxHeartbeats 400000 in
theorem put_law (a : Option Addr) (n cap : Nat) (kf vf : Nat → ByteArray) (df : Nat → Bool) (s v u : ByteArray) (w : World) (h : OpsAt w a n kf vf df) (ha : a = none → n = 0 ∧ cap = 0) (hn : n ≤ 9223372036854775807) (hs : s.size ≤ maxLen) (hv : v.size ≤ maxLen) (hu : u.size ≤ maxLen) (hsz : ∀ i, i < n → (kf i).size ≤ maxLen ∧ (vf i).size ≤ maxLen) :
    Calls Try.prog 4 #[.slice a n cap, .string s, .string v, .string u] w fun e w' => e = .returned (.bool true) ∧ Below w.heap.size w w' := by
  have HO : Hid (OpsAt w a n kf vf df) := h
  have HZ : Hid (∀ i, i < n → (kf i).size ≤ maxLen ∧ (vf i).size ≤ maxLen) := hsz
  have HA : Hid (a = none → n = 0 ∧ cap = 0) := ha
  have hs2 : s.size ≤ 9223372036854775807 := hs
  have hv2 : v.size ≤ 9223372036854775807 := hv
  have hu2 : u.size ≤ 9223372036854775807 := hu
  clear h hsz ha
  go_enter Try.func4, Try.ntmps4
  go_wp2_with fail
  refine (bytes11_any a n cap kf vf df s v u w HO.out hn hs2 hv2 hu2 HZ.out).mono ?_
  rintro _ w0 ⟨bb, rfl, rfl, hbb⟩
  cases bb with
  | false =>
    go_wp2
    go_ret
    exact ⟨rfl, Below.refl _ _⟩
  | true =>
    obtain ⟨hn2, hsm⟩ := hbb rfl
    have HSM : Hid (∀ i, i < n → (kf i).size ≤ 1048576 ∧ (vf i).size ≤ 1048576) := hsm
    clear hbb hsm
    by_cases k1 : 65536 < n
    · go_wp2
      go_ret
      exact ⟨rfl, Below.refl _ _⟩
    by_cases k2 : 1048576 < s.size
    · go_wp2
      go_ret
      exact ⟨rfl, Below.refl _ _⟩
    by_cases k4 : 1048576 < v.size
    · go_wp2
      go_ret
      exact ⟨rfl, Below.refl _ _⟩
    by_cases k5 : 1048576 < u.size
    · go_wp2
      go_ret
      exact ⟨rfl, Below.refl _ _⟩
    go_wp2_with fail
    refine (opsBytes_any a n cap kf vf df w0 HO.out hn2 HSM.out).mono ?_
    rintro _ w1 ⟨t, q, ht, rfl, hw1⟩
    have HB1 : Hid (Below w0.heap.size w0 w1) := by subst hw1; exact ⟨rfl, rfl, rfl, Nat.le_refl _, fun _ _ => rfl⟩
    have HO1 : Hid (OpsAt w1 a n kf vf df) := by subst hw1; exact HO.out.drewN
    clear hw1
    by_cases k3 : 1048576 < t + s.size + v.size + u.size
    · go_wp2
      go_ret
      exact ⟨rfl, HB1.out⟩
    go_wp2_with fail
    refine (copy_any a n cap kf vf df w1 HO1.out hn2 HA.out).mono ?_
    rintro _ w2 ⟨a', rfl, ho2, hb2, hl2⟩
    have HO2 : Hid (OpsAt w2 a' n kf vf df) := ho2
    have HB2 : Hid (Below w0.heap.size w0 w2) := HB1.out.trans (hb2.mono HB1.out.size)
    have HL2 : Hid (∀ x, a' = some x → x.block < w2.heap.size) := hl2
    clear ho2 hb2 hl2
    go_wp2_with fail
    refine (run_any w2.heap.size w2.heap.size none none a' n n kf vf df _ (HO2.out.below ((Below.refl _ _).alloc (Nat.le_refl _) _)) hn2 HL2.out HZ.out (SI.start w2 _ kf vf df rfl rfl rfl)).mono ?_
    rintro _ w3 ⟨rfl, ⟨mc, md, hsi⟩, hb3⟩
    have HO3 : Hid (OpsAt w3 a' n kf vf df) := (HO2.out.below ((Below.refl _ _).alloc (Nat.le_refl _) _)).belowB hb3 HL2.out
    have HB3 : Hid (Below w0.heap.size w0 w3) := (HB2.out.alloc HB2.out.size _).trans (hb3.mono HB2.out.size)
    have HSI : Hid (SI w3 w2.heap.size n w2.heap.size mc md (left kf vf df n)) := hsi
    clear hsi hb3
    go_wp2_with fail
    refine (get_any _ _ _ _ _ _ u w3 HSI.out hu).mono ?_
    rintro _ w4 ⟨rfl, rfl⟩
    go_wp2_with fail
    refine (put_any _ _ _ _ _ _ s v w4 HSI.out (by unfold maxLen; omega) hs hv).mono ?_
    rintro _ w5 ⟨rfl, ⟨mc', hsi5⟩, hb5⟩
    have HO5 : Hid (OpsAt w5 a' n kf vf df) := HO3.out.belowB hb5 HL2.out
    have HB5 : Hid (Below w0.heap.size w0 w5) := HB3.out.trans (hb5.mono HB2.out.size)
    have HSI5 : Hid (SI w5 w2.heap.size (n + 1) w2.heap.size mc' md (upd (left kf vf df n) s.data.toList (some v))) := hsi5
    clear hsi5 hb5 HO3 HB3 HSI
    go_wp2_with fail
    refine (get_any _ _ _ _ _ _ s w5 HSI5.out hs).mono ?_
    rintro _ w6 ⟨rfl, rfl⟩
    have e1 : upd (left kf vf df n) s.data.toList (some v) s.data.toList = some v := by simp [upd]
    rw [e1]
    clear e1
    simp only [Option.getD_some, Option.isSome_some]
    go_wp2_with fail
    refine (get_any _ _ _ _ _ _ u w6 HSI5.out hu).mono ?_
    rintro _ w7 ⟨rfl, rfl⟩
    by_cases e : u.data.toList = s.data.toList
    · have hb : (u.toList == s.toList) = true := by rw [ByteArray.toList_eq, ByteArray.toList_eq, e]; simp
      have e2 : upd (left kf vf df n) s.data.toList (some v) u.data.toList = some v := by simp [upd, e]
      rw [e2]
      clear e e2
      simp only [Option.getD_some, Option.isSome_some]
      generalize (left kf vf df n u.data.toList).getD ⟨#[]⟩ = gv
      generalize (left kf vf df n u.data.toList).isSome = gb
      go_wp2
      go_ret
      exact ⟨rfl, HB5.out⟩
    · have hb : (u.toList == s.toList) = false := by rw [ByteArray.toList_eq, ByteArray.toList_eq]; simpa using e
      have e2 : upd (left kf vf df n) s.data.toList (some v) u.data.toList = left kf vf df n u.data.toList := by simp [upd, e]
      rw [e2]
      clear e e2
      go_wp2_with fail
      refine (lastWrite_any a' n n kf vf df u w7 HO5.out hn2).mono ?_
      rintro _ w8 ⟨rfl, rfl⟩
      generalize (left kf vf df n u.data.toList).getD ⟨#[]⟩ = gv
      generalize (left kf vf df n u.data.toList).isSome = gb
      go_wp2
      go_ret
      refine ⟨?_, HB5.out⟩
      simp

end Go.Proofs.Qxb6603588a

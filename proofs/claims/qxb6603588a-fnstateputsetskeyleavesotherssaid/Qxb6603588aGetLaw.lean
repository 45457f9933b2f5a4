import Derived.Test.Qxb6603588aBytes
namespace Go.Proofs.Qxb6603588a
open Go.RowKit Go.Maps

theorem OpsAt.drewN {w : World} {q : Nat} {a : Option Addr} {n : Nat} {kf vf : Nat → ByteArray} {df : Nat → Bool} (h : OpsAt w a n kf vf df) : OpsAt (w.drewN q) a n kf vf df := h

/-- A new State, all zero. -/
theorem SI.start (w : World) (c : Array Value) (kf vf : Nat → ByteArray) (df : Nat → Bool) (h1 : c[1]? = some (.pointer none)) (h2 : c[39]? = some (.map none)) (h3 : c[40]? = some (.map none)) : SI (w.alloc (.cells c 42)) w.heap.size 0 w.heap.size none none (left kf vf df 0) := by
  have hb : (w.alloc (.cells c 42)).heap[w.heap.size]? = some (.cells c 42 (0, 0)) := heap_alloc_new w _
  refine ⟨Nat.le_refl _, by simp, ?_, ?_, ?_, ?_, ?_, .inl ⟨rfl, fun _ => rfl⟩, .inl rfl, by simp, by simp, .inl rfl⟩
  · rw [cell_of_row _ _ 1 c 42 (0, 0) hb]; exact h1
  · rw [cell_of_row _ _ 39 c 42 (0, 0) hb]; exact h2
  · exact frozen_of_row _ _ 39 c 42 hb
  · rw [cell_of_row _ _ 40 c 42 (0, 0) hb]; exact h3
  · exact frozen_of_row _ _ 40 c 42 hb

set_option maxHeartbeats 400000 in
theorem get_law (a : Option Addr) (n cap : Nat) (kf vf : Nat → ByteArray) (df : Nat → Bool) (s : ByteArray) (w : World) (h : OpsAt w a n kf vf df) (ha : a = none → n = 0 ∧ cap = 0) (hn : n ≤ 9223372036854775807) (hs : s.size ≤ maxLen) (hsz : ∀ i, i < n → (kf i).size ≤ maxLen ∧ (vf i).size ≤ maxLen) :
    Calls Try.prog 3 #[.slice a n cap, .string s] w fun e w' => e = .returned (.bool true) ∧ Below w.heap.size w w' := by
  have HO : Hid (OpsAt w a n kf vf df) := h
  have HZ : Hid (∀ i, i < n → (kf i).size ≤ maxLen ∧ (vf i).size ≤ maxLen) := hsz
  have HA : Hid (a = none → n = 0 ∧ cap = 0) := ha
  have hs2 : s.size ≤ 9223372036854775807 := hs
  clear h hsz ha
  go_enter Try.func3, Try.ntmps3
  go_wp2_with fail
  refine (bytes5_any a n cap kf vf df s w HO.out hn hs2 HZ.out).mono ?_
  rintro _ w0 ⟨bb, rfl, rfl, hbb⟩
  cases bb with
  | false =>
    go_wp2
    go_ret
    exact ⟨rfl, Below.refl _ _⟩
  | true =>
    obtain ⟨hn2, hsm⟩ := hbb rfl
    have HSM : Hid (∀ i, i < n → (kf i).size ≤ 1048576 ∧ (vf i).size ≤ 1048576) := hsm
    clear hbb hsm
    by_cases k1 : 65536 < n
    · go_wp2
      go_ret
      exact ⟨rfl, Below.refl _ _⟩
    by_cases k2 : 1048576 < s.size
    · go_wp2
      go_ret
      exact ⟨rfl, Below.refl _ _⟩
    go_wp2_with fail
    refine (opsBytes_any a n cap kf vf df w0 HO.out hn2 HSM.out).mono ?_
    rintro _ w1 ⟨t, q, ht, rfl, hw1⟩
    have HB1 : Hid (Below w0.heap.size w0 w1) := by subst hw1; exact ⟨rfl, rfl, rfl, Nat.le_refl _, fun _ _ => rfl⟩
    have HO1 : Hid (OpsAt w1 a n kf vf df) := by subst hw1; exact HO.out.drewN
    clear hw1
    by_cases k3 : 1048576 < t + s.size
    · go_wp2
      go_ret
      exact ⟨rfl, HB1.out⟩
    go_wp2_with fail
    refine (copy_any a n cap kf vf df w1 HO1.out hn2 HA.out).mono ?_
    rintro _ w2 ⟨a', rfl, ho2, hb2, hl2⟩
    have HO2 : Hid (OpsAt w2 a' n kf vf df) := ho2
    have HB2 : Hid (Below w0.heap.size w0 w2) := HB1.out.trans (hb2.mono HB1.out.size)
    have HL2 : Hid (∀ x, a' = some x → x.block < w2.heap.size) := hl2
    clear ho2 hb2 hl2
    go_wp2_with fail
    refine (run_any w2.heap.size w2.heap.size none none a' n n kf vf df _ (HO2.out.below ((Below.refl _ _).alloc (Nat.le_refl _) _)) hn2 HL2.out HZ.out (SI.start w2 _ kf vf df rfl rfl rfl)).mono ?_
    rintro _ w3 ⟨rfl, ⟨mc, md, hsi⟩, hb3⟩
    have HO3 : Hid (OpsAt w3 a' n kf vf df) := (HO2.out.below ((Below.refl _ _).alloc (Nat.le_refl _) _)).belowB hb3 HL2.out
    have HB3 : Hid (Below w0.heap.size w0 w3) := (HB2.out.alloc HB2.out.size _).trans (hb3.mono HB2.out.size)
    have HSI : Hid (SI w3 w2.heap.size n w2.heap.size mc md (left kf vf df n)) := hsi
    clear hsi hb3
    go_wp2_with fail
    refine (get_any _ _ _ _ _ _ s w3 HSI.out hs).mono ?_
    rintro _ w4 ⟨rfl, rfl⟩
    go_wp2_with fail
    refine (lastWrite_any a' n n kf vf df s w4 HO3.out hn2).mono ?_
    rintro _ w5 ⟨rfl, rfl⟩
    generalize (left kf vf df n s.data.toList).getD ⟨#[]⟩ = gv
    generalize (left kf vf df n s.data.toList).isSome = gb
    go_wp2
    go_ret
    refine ⟨?_, HB3.out⟩
    simp

end Go.Proofs.Qxb6603588a

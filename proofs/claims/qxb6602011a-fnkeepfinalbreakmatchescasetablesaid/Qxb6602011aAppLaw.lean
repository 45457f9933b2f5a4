import Derived.Test.Qxb6602011aLines
import Derived.Test.Qxb6602011aEqual
namespace Go.Proofs.Qxb6602011a
open Go.RowKit
open Plain

theorem buf_of_owns {w : World} {base n : Nat} {v : Value} {z : Nat → Int} (h : w.ownsRow base 5 1 v n (row z n)) : Buf w v ((List.range n).map z) := by
  unfold Buf
  rw [List.length_map, List.length_range, ← row_eq]
  refine ⟨h.1, ?_⟩
  rcases h.2 with h0 | ⟨g, cap, cur, e, hb, rest⟩
  · exact .inl h0
  · exact .inr ⟨g, cap, cur, e, Nat.zero_le _, rest⟩

theorem Buf.form {w : World} {v : Value} {cs : List Int} (h : Buf w v cs) : ∃ a c, v = .slice a cs.length c ∧ Text w a cs.length (fun k => cs.getD k 0) := by
  have hr : cs.map (Value.int .u8) = row (fun k => cs.getD k 0) cs.length := by
    unfold row
    apply List.ext_getElem
    · simp
    · intro i h1 h2
      simp at h1
      simp [h1]
  have hv : ∃ a c, v = .slice a cs.length c := by
    rcases h.2 with ⟨e, h0⟩ | ⟨g, cap, cur, e, _⟩
    · exact ⟨none, 0, by rw [e, h0]⟩
    · exact ⟨_, cap, e⟩
  obtain ⟨a, c, rfl⟩ := hv
  refine ⟨a, c, rfl, ?_⟩
  unfold Buf at h
  rw [hr] at h
  exact text_of_owns h

theorem Buf.kept {w w' : World} {v u u' : Value} {cs : List Int} (h : Buf w v cs) (ha : App w u w' u') (hne : v.ownBlock = none ∨ v.ownBlock ≠ u.ownBlock) : Buf w' v cs := World.ownsRow.kept h ha.grown hne

theorem below_grown {w w' : World} (h : Below w.heap.size w w') (row : Option Nat) : w.grownBy w' row := ⟨h.os, h.tape, h.output, h.size, fun k hk _ => h.block k hk⟩

theorem Buf.below {w w' : World} {v : Value} {cs : List Int} (h : Buf w v cs) (hb : Below w.heap.size w w') : Buf w' v cs := World.ownsRow.kept h (below_grown hb none) (by cases v.ownBlock <;> simp)

theorem zzAppendLines_any (v : Value) (cs : List Int) (ao : Option Addr) (n cap : Nat) (z : Nat → Int) (floor : Int) (w : World) (hb : Buf w v cs) (ht : Text w ao n z) (hs : ∀ x, ao = some x → some x.block ≠ v.ownBlock) (hno : ao = none → n = 0 ∧ cap = 0) (hcap : n ≤ cap) (hlen : cs.length ≤ 1048576) (hn : n ≤ 1048576) (hf : floor ≤ 0) (hf2 : -9223372036854775808 ≤ floor) :
    Calls Try.prog 18 #[v, .slice ao n cap, .int .i64 0, .int .i64 floor] w fun e w' => ∃ v', e = .returned v' ∧ Buf w' v' (cs ++ lines z n) ∧ App w v w' v' := by
  have HB : Hid (Buf w v cs) := hb
  have HT : Hid (Text w ao n z) := ht
  have HS : Hid (∀ x, ao = some x → some x.block ≠ v.ownBlock) := hs
  have HO : Hid (ao = none → n = 0 ∧ cap = 0) := hno
  clear hb ht hs hno
  go_enter Try.func18, Try.ntmps18
  go_wp2_with fail
  refine (appendLines_any v cs ao n cap z floor w HB.out HT.out HS.out HO.out hcap hlen hn hf hf2).mono ?_
  rintro _ w1 ⟨v', rfl, hb1, ha1⟩
  have HB1 : Hid (Buf w1 v' (cs ++ lines z n)) := hb1
  clear hb1
  go_wp2
  go_ret
  exact ⟨_, rfl, HB1.out, ha1⟩

/-- What a clone leaves. -/
structure Cl (w w' : World) (a : Option Addr) (n : Nat) (z : Nat → Int) : Prop where
  buf : Buf w' (.slice a n n) ((List.range n).map z)
  text : Text w' a n z
  lo : ∀ x, a = some x → w.heap.size ≤ x.block
  hi : ∀ x, a = some x → x.block < w'.heap.size
  nil : a = none → n = 0 ∧ n = 0
  below : Below w.heap.size w w'

theorem cl_of {w w' : World} {a : Option Addr} {n : Nat} {z : Nat → Int} (h : w'.ownsRow w.heap.size 5 1 (.slice a n n) n (row z n)) (hb : Below w.heap.size w w') : Cl w w' a n z := by
  refine ⟨buf_of_owns h, text_of_owns h, fun x hx => ?_, fun x hx => ?_, fun hn => ?_, hb⟩
  · subst hx; exact (h.lt x.block rfl).1
  · subst hx; exact (h.lt x.block rfl).2
  · subst hn
    rcases h.2 with ⟨_, h0⟩ | ⟨g, cap, cur, e, _⟩
    · exact ⟨h0, h0⟩
    · simp at e

theorem sep_lt {a1 a2 : Option Addr} {n c B : Nat} (h1 : ∀ x, a1 = some x → x.block < B) (h2 : ∀ x, a2 = some x → B ≤ x.block) : ∀ x, a1 = some x → some x.block ≠ (Value.slice a2 n c).ownBlock := by
  intro x hx he
  cases a2 with
  | none => simp [Value.ownBlock] at he
  | some y =>
    simp [Value.ownBlock] at he
    have := h1 x hx
    have := h2 y rfl
    omega

theorem sep_ne {a1 a2 : Option Addr} {n c n' c' : Nat} (h : ∀ x, a1 = some x → some x.block ≠ (Value.slice a2 n c).ownBlock) : (Value.slice a1 n' c').ownBlock = none ∨ (Value.slice a1 n' c').ownBlock ≠ (Value.slice a2 n c).ownBlock := by
  cases a1 with
  | none => exact .inl rfl
  | some x => exact .inr (h x rfl)

theorem bs_length (z : Nat → Int) (n : Nat) : ((List.range n).map z).length = n := by simp

/-- What holds once 'want' is made: b and region are as they were. -/
theorem app_mid {w w1 w2 w3 w5 : World} {ab ar aw : Option Addr} {l0 l1 : Nat} {z0 z1 : Nat → Int} {v5 : Value} (C1 : Cl w w1 ab l0 z0) (C2 : Cl w1 w2 ar l1 z1) (C3 : Cl w2 w3 aw l0 z0) (A : App w3 (.slice aw l0 l0) w5 v5) :
    Buf w5 (.slice ab l0 l0) ((List.range l0).map z0) ∧ Text w5 ar l1 z1 ∧ (∀ x, ar = some x → some x.block ≠ (Value.slice ab l0 l0).ownBlock) ∧ (v5.ownBlock = none ∨ v5.ownBlock ≠ (Value.slice ab l0 l0).ownBlock) := by
  have s1 := C1.below.size
  have s2 := C2.below.size
  have s3 := C3.below.size
  have n1 : ∀ x, ab = some x → some x.block ≠ (Value.slice aw l0 l0).ownBlock := sep_lt C1.hi (fun x hx => by have := C3.lo x hx; omega)
  have n2 : ∀ x, ar = some x → some x.block ≠ (Value.slice aw l0 l0).ownBlock := sep_lt C2.hi C3.lo
  refine ⟨((C1.buf.below C2.below).below C3.below).kept A (sep_ne n1), (C2.text.below C3.below).grown A.grown (fun b off e => n2 ⟨b, off, none⟩ e), ?_, ?_⟩
  · intro x hx he
    cases ab with
    | none => simp [Value.ownBlock] at he
    | some y =>
      simp [Value.ownBlock] at he
      have := C1.hi y rfl
      have := C2.lo x hx
      omega
  · rcases A.moved with e | ⟨k, e, hk⟩
    · rw [e]
      cases aw with
      | none => exact .inl rfl
      | some y =>
        right
        cases ab with
        | none => simp [Value.ownBlock]
        | some x =>
          have := C1.hi x rfl
          have := C3.lo y rfl
          simp [Value.ownBlock]; omega
    · right
      rw [e]
      cases ab with
      | none => simp [Value.ownBlock]
      | some x =>
        have := C1.hi x rfl
        simp [Value.ownBlock]; omega

theorem app_final {w w1 w2 w3 w5 w6 : World} {ab ar aw : Option Addr} {l0 l1 : Nat} {z0 z1 : Nat → Int} {v5 v6 : Value} (C1 : Cl w w1 ab l0 z0) (C2 : Cl w1 w2 ar l1 z1) (C3 : Cl w2 w3 aw l0 z0) (A : App w3 (.slice aw l0 l0) w5 v5) (A2 : App w5 (.slice ab l0 l0) w6 v6) : Below w.heap.size w w6 := by
  have s1 := C1.below.size
  have s2 := C2.below.size
  have s3 := C3.below.size
  have s5 := A.grown.size
  have b3 : Below w.heap.size w w3 := (C1.below.trans (C2.below.mono s1)).trans (C3.below.mono (by omega))
  refine (b3.grown A.grown (by omega) ?_).grown A2.grown (by omega) ?_
  · intro k hk
    cases aw with
    | none => simp [Value.ownBlock] at hk
    | some y =>
      simp [Value.ownBlock] at hk
      have := C3.lo y rfl
      omega
  · intro k hk
    cases ab with
    | none => simp [Value.ownBlock] at hk
    | some y =>
      simp [Value.ownBlock] at hk
      have := C1.lo y rfl
      omega

theorem app_law (a0 : Option Addr) (l0 c0 : Nat) (z0 : Nat → Int) (a1 : Option Addr) (l1 c1 : Nat) (z1 : Nat → Int) (fl : Int) (w : World) (ht0 : Text w a0 l0 z0) (hn0 : a0 = none → l0 = 0 ∧ c0 = 0) (ht1 : Text w a1 l1 z1) (hn1 : a1 = none → l1 = 0 ∧ c1 = 0)
    (hm0 : l0 ≤ 9223372036854775807) (hm1 : l1 ≤ 9223372036854775807) (hf2 : -9223372036854775808 ≤ fl) :
    Calls Try.prog 6 #[.slice a0 l0 c0, .slice a1 l1 c1, .int .i64 fl] w fun e w' => e = .returned (.bool true) ∧ Below w.heap.size w w' := by
  by_cases hb0 : 1048576 < l0
  · clear ht0 ht1 hn0 hn1
    go_enter Try.func6, Try.ntmps6
    go_wp2
    go_ret
    exact ⟨rfl, Below.refl _ _⟩
  by_cases hb1 : 1048576 < l1
  · clear ht0 ht1 hn0 hn1
    go_enter Try.func6, Try.ntmps6
    go_wp2
    go_ret
    exact ⟨rfl, Below.refl _ _⟩
  by_cases hb2 : 1048576 < l0 + l1
  · clear ht0 ht1 hn0 hn1
    go_enter Try.func6, Try.ntmps6
    go_wp2
    go_ret
    exact ⟨rfl, Below.refl _ _⟩
  by_cases hb3 : 0 < fl
  · clear ht0 ht1 hn0 hn1
    go_enter Try.func6, Try.ntmps6
    go_wp2
    go_ret
    exact ⟨rfl, Below.refl _ _⟩
  have HT0 : Hid (Text w a0 l0 z0) := ht0
  have HT1 : Hid (Text w a1 l1 z1) := ht1
  have HN0 : Hid (a0 = none → l0 = 0 ∧ c0 = 0) := hn0
  have HN1 : Hid (a1 = none → l1 = 0 ∧ c1 = 0) := hn1
  clear ht0 ht1 hn0 hn1
  go_enter Try.func6, Try.ntmps6
  go_wp2_with (go_at_call 16; go_in)
  refine (clone_any a0 l0 c0 z0 w HT0.out (by omega) HN0.out).mono ?_
  rintro _ w1 ⟨ab, rfl, hob, hbel1⟩
  have C1 : Hid (Cl w w1 ab l0 z0) := cl_of hob hbel1
  clear hob hbel1
  go_wp2_with fail
  refine (clone_any a1 l1 c1 z1 w1 (HT1.out.below C1.out.below) (by omega) HN1.out).mono ?_
  rintro _ w2 ⟨ar, rfl, hor, hbel2⟩
  have C2 : Hid (Cl w1 w2 ar l1 z1) := cl_of hor hbel2
  clear hor hbel2
  go_wp2_with fail
  refine (clone_any ab l0 l0 z0 w2 (C1.out.text.below C2.out.below) (by omega) C1.out.nil).mono ?_
  rintro _ w3 ⟨aw, rfl, how, hbel3⟩
  have C3 : Hid (Cl w2 w3 aw l0 z0) := cl_of how hbel3
  clear how hbel3
  go_wp2_with fail
  have hnl : (norm z1 l1 0).length ≤ l1 := norm_length z1 l1 l1 0 rfl
  have hll := lines_length z1 l1
  refine (appendNorm_any (.slice aw l0 l0) ((List.range l0).map z0) ar l1 l1 z1 w3 C3.out.buf (C2.out.text.below C3.out.below) (fun b off e => sep_lt C2.out.hi C3.out.lo ⟨b, off, none⟩ e) (by rw [bs_length]; omega) (by omega)).mono ?_
  rintro _ w4 ⟨v4, rfl, hb4, ha4⟩
  have HB4 : Hid (Buf w4 v4 ((List.range l0).map z0 ++ norm z1 l1 0)) := hb4
  have HA4 : Hid (App w3 (.slice aw l0 l0) w4 v4) := ha4
  clear hb4 ha4
  go_wp2_with (at_builtin; refine wpList_append_buf rfl (.tmp 30) (.tmp 31) rfl _ ((List.range l0).map z0 ++ norm z1 l1 0) rfl (HB4.out.alloc _) (some ⟨_, 0, none⟩) 1 1 (fun _ => 10) rfl (by exact text_one _ _) (fun h => by cases h) (by simp; omega) ?_)
  intro v5 w5 hb5 ha5
  have HB5 : Hid (Buf w5 v5 ((List.range l0).map z0 ++ lines z1 l1)) := by
    show Buf w5 v5 _
    rw [lines_norm]; simpa using hb5
  have HA5 : Hid (App w3 (.slice aw l0 l0) w5 v5) := (HA4.out.trans (App.alloc _ _ _)).trans ha5
  clear hb5 ha5 HB4 HA4
  have HM := app_mid C1.out C2.out C3.out HA5.out
  have HMM : Hid (Buf w5 (.slice ab l0 l0) ((List.range l0).map z0) ∧ Text w5 ar l1 z1 ∧ (∀ x, ar = some x → some x.block ≠ (Value.slice ab l0 l0).ownBlock) ∧ (v5.ownBlock = none ∨ v5.ownBlock ≠ (Value.slice ab l0 l0).ownBlock)) := HM
  clear HM
  go_wp2_with fail
  refine (zzAppendLines_any (.slice ab l0 l0) ((List.range l0).map z0) ar l1 l1 z1 fl w5 HMM.out.1 HMM.out.2.1 HMM.out.2.2.1 C2.out.nil (Nat.le_refl _) (by rw [bs_length]; omega) (by omega) (by omega) hf2).mono ?_
  rintro _ w6 ⟨v6, rfl, hb6, ha6⟩
  obtain ⟨x5, k5, rfl, t5⟩ := (HB5.out.kept ha6 HMM.out.2.2.2).form
  obtain ⟨x6, k6, rfl, t6⟩ := hb6.form
  have HT5 : Hid _ := t5
  have HT6 : Hid _ := t6
  have HF : Hid (Below w.heap.size w w6) := app_final C1.out C2.out C3.out HA5.out ha6
  have hL : ((List.range l0).map z0 ++ lines z1 l1).length ≤ 1099511627776 := by rw [List.length_append, bs_length]; omega
  clear hb6 ha6 t5 t6 HB5 HA5 HMM C1 C2 C3
  generalize (List.range l0).map z0 ++ lines z1 l1 = L at *
  go_wp2_with fail
  refine (equal_any x6 x5 L.length k6 k5 (fun k => L.getD k 0) w6 HT6.out HT5.out hL).mono ?_
  rintro _ w7 ⟨rfl, q, rfl⟩
  go_wp2
  go_ret
  refine ⟨rfl, ?_⟩
  exact HF.out.trans ⟨rfl, rfl, rfl, Nat.le_refl _, fun _ _ => rfl⟩

end Go.Proofs.Qxb6602011a

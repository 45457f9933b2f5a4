import Derived.Test.Qxb6602011aKeep
namespace Go.Proofs.Qxb6602011a
open Go.RowKit
open Plain

def byteX (z : Nat → Int) (n : Nat) (i : Int) : Int := if i < n then z i.toNat else 0

theorem byteAt_any (a : Option Addr) (n cap : Nat) (z : Nat → Int) (i : Int) (w : World) (ht : Text w a n z) (h0 : 0 ≤ i) :
    Calls Try.prog 25 #[.slice a n cap, .int .i64 i] w fun e w' => e = .returned (.int .u8 (byteX z n i)) ∧ w' = w := by
  obtain ⟨k, rfl⟩ := Int.eq_ofNat_of_zero_le h0
  by_cases hlt : k < n
  · obtain ⟨b, off, rfl, hc⟩ := ht k hlt
    have e : byteX z n (k : Int) = z k := by unfold byteX; rw [if_pos (by omega), Int.toNat_natCast]
    rw [e]
    clear ht e
    go_enter Try.func25, Try.ntmps25
    go_wp2
    go_ret
    exact ⟨rfl, rfl⟩
  · have e : byteX z n (k : Int) = 0 := by unfold byteX; rw [if_neg (by omega)]
    rw [e]
    clear ht e
    go_enter Try.func25, Try.ntmps25
    go_wp2
    go_ret
    exact ⟨rfl, rfl⟩

theorem minusAt_any (a : Option Addr) (m c : Nat) (y : Nat → Int) (i : Int) (k : Nat) (w : World) (ht : Text w a m y) (hi : i = k) (hk : k < m) (hm : m ≤ 1048576) :
    Calls Try.prog 26 #[.slice a m c, .int .i64 i] w fun e w' => ∃ a' c', e = .returned (.slice a' (((List.range m).map y).set k 45).length c') ∧ Text w' a' (((List.range m).map y).set k 45).length (fun j => (((List.range m).map y).set k 45).getD j 0) ∧ Below w.heap.size w w' := by
  subst hi
  have HT : Hid (Text w a m y) := ht
  clear ht
  obtain ⟨i0, hi, hz0, hz1, hz2⟩ := info_parts info5
  go_enter Try.func26, Try.ntmps26
  go_wp2_with (at_make; refine wpList_make_full _ rfl (.tmp 7) (.tmp 7) 22 rfl w.heap.size 5 i0 (.int .u8 0) 1 Try.underlying22 hi hz0 hz1 .i64 .i64 m m m rfl rfl rfl rfl (by rw [hz2]; omega) (by unfold maxLen; omega) (Nat.le_refl _) ?_)
  intro w1 hown hgrow
  have hbel : Below w.heap.size w w1 := (Below.refl _ _).grown hgrow (Nat.le_refl _) (fun k h => by cases h)
  obtain ⟨cur, hg, hcl, _⟩ := made_block hown
  have HT1 := HT.out.below hbel
  have hpos : 0 < (row y m).length → some (⟨w.heap.size, 0, none⟩ : Addr) = some ⟨w.heap.size, 0, none⟩ ∧ ∃ ad, a = some ad ∧ ∀ j v, (row y m)[j]? = some v → w1.cell? (ad.add j) = some v := by
    intro h
    rw [row_length] at h
    obtain ⟨b, off, rfl, _⟩ := HT1 0 h
    refine ⟨rfl, _, rfl, fun j v hv => ?_⟩
    obtain ⟨hj, rfl⟩ := row_get hv
    obtain ⟨b', off', he, hc⟩ := HT1 j hj
    cases he
    rw [add_plain]; exact hc
  have hfit : 0 + (row y m).length ≤ cur.length := by rw [row_length]; omega
  have hlen : (row y m).length = Nat.min m m := by rw [row_length]; exact (Nat.min_self m).symm
  clear hown hgrow HT1
  go_wp2_with (refine wpList_copy_splice rfl (.tmp 9) (.tmp 10) 22 22 rfl 5 Try.underlying22 size5 (some ⟨w.heap.size, 0, none⟩) a m m m c rfl rfl w.heap.size 0 cur 5 hg (row y m) hlen hpos hfit (row_one y m) w.heap.size w hbel (Nat.le_refl _) ?_)
  intro w2 hg2 hbel2
  have hown2 : w2.ownsRow w.heap.size 5 1 (.slice (some ⟨w.heap.size, 0, none⟩) m m) m (row y m) := by
    refine owns_of_block hg2.out (Nat.le_refl _) ?_ (row_length y m) (by unfold maxLen; omega)
    unfold splice
    rw [row_length]
    simp [hcl]
  have hb := buf_of_owns hown2
  have hbl : ((List.range m).map y).length = m := by simp
  have HB : Hid (Buf w2 (.slice (some ⟨w.heap.size, 0, none⟩) ((List.range m).map y).length m) ((List.range m).map y)) := by
    show Buf w2 _ _
    rw [hbl]; exact hb
  obtain ⟨u, hu⟩ := HB.out.cellAt (j := k) (by rw [hbl]; exact hk)
  have hfz := HB.out.frozenAt k
  have HBE : Hid (Below w.heap.size w w2) := hbel2
  clear hown2 hb hg2 hg hbel hbel2 hpos hfit hlen hbl
  go_wp2
  go_ret
  have hbs := HB.out.stored k 45
  obtain ⟨a2, c2, he2, ht2⟩ := hbs.form
  simp only [Value.slice.injEq] at he2
  obtain ⟨rfl, _, rfl⟩ := he2
  refine ⟨_, m, ?_, ht2, HBE.out.setCell (Nat.le_refl _) _⟩
  rw [List.length_set, List.length_map, List.length_range]; rfl


theorem minusIn_any (a : Option Addr) (m c : Nat) (y : Nat → Int) (i : Int) (k : Nat) (w : World) (ht : Text w a m y) (hno : a = none → m = 0 ∧ c = 0) (hc : m ≤ c) (hi : i = k) (hk : k ≤ m) (hm : m ≤ 1048576) :
    Calls Try.prog 27 #[.slice a m c, .int .i64 i] w fun e w' => ∃ a' c', e = .returned (.slice a' (seg y 0 k ++ 45 :: seg y k m).length c') ∧ Text w' a' (seg y 0 k ++ 45 :: seg y k m).length (fun j => (seg y 0 k ++ 45 :: seg y k m).getD j 0) ∧ Below w.heap.size w w' := by
  subst hi
  have HT : Hid (Text w a m y) := ht
  have HO : Hid (a = none → m = 0 ∧ c = 0) := hno
  clear ht hno
  obtain ⟨i0, hi, hz0, hz1, hz2⟩ := info_parts info5
  have hto := run_to a m c k (by omega)
  have hfr := run_from a m c k hk
  go_enter Try.func27, Try.ntmps27
  go_wp2_with (at_make; refine wpList_make_own _ rfl (.const (.int .i64 0)) (.tmp 8) 22 rfl 0 5 i0 (.int .u8 0) 1 Try.underlying22 hi hz0 hz1 .i64 .i64 _ (m + 1) rfl rfl (by omega) (by rw [hz2]; omega) (by unfold maxLen; omega) (Nat.zero_le _) ?_)
  intro w1 hown hgrow
  have S1 : Hid (St w w1 (.slice (some ⟨w.heap.size, 0, none⟩) 0 (m + 1)) []) := ⟨hown, (Below.refl _ _).grown hgrow (Nat.le_refl _) (fun k h => by cases h), fun k h => by simp [Value.ownBlock] at h; omega⟩
  have HT1 : Hid (Text w1 a m y) := HT.out.below S1.out.below
  have HO1 : Hid (a = none → k = 0 ∧ c = 0) := fun h => by have := HO.out h; omega
  clear hown hgrow
  go_wp2_with (at_builtin; refine wpList_append_buf rfl (.tmp 10) (.tmp 13) rfl _ [] rfl S1.out.buf a k c y rfl (HT1.out.upto hk) HO1.out (by simp; omega) ?_)
  intro v2 w2 hb2 ha2
  have S2 : Hid (St w w2 v2 (seg y 0 k)) := S1.out.app (by rw [← seg_zero]; simpa using hb2) ha2
  clear hb2 ha2 S1 HT1 hto
  go_wp2_with (at_builtin; refine wpList_append_buf rfl (.tmp 15) (.tmp 16) rfl _ (seg y 0 k) rfl (S2.out.buf.alloc _) (some ⟨_, 0, none⟩) 1 1 (fun _ => 45) rfl (by exact text_one _ _) (fun h => by cases h) (by rw [seg_length]; omega) ?_)
  intro v3 w3 hb3 ha3
  have S3 : Hid (St w w3 v3 (seg y 0 k ++ [45])) := (S2.out.alloc _).app (by simpa using hb3) ha3
  have HT3 : Hid (Text w3 (cutA a k c) (m - k) (from' y k)) := (HT.out.below S3.out.below).cut hc
  have HO3 : Hid (cutA a k c = none → m - k = 0 ∧ c - k = 0) := cutA_none HO.out
  clear hb3 ha3 S2
  go_wp2_with (at_builtin; refine wpList_append_buf rfl (.tmp 18) (.tmp 21) rfl _ (seg y 0 k ++ [45]) rfl S3.out.buf (cutA a k c) (m - k) (c - k) (from' y k) rfl HT3.out HO3.out (by rw [List.length_append, seg_length]; simp; omega) ?_)
  intro v4 w4 hb4 ha4
  have S4 : Hid (St w w4 v4 (seg y 0 k ++ 45 :: seg y k m)) := S3.out.app (by rw [← seg_from y k m]; simpa using hb4) ha4
  clear hb4 ha4 S3 HT3
  go_wp2
  go_ret
  obtain ⟨a5, c5, e5, t5⟩ := S4.out.buf.form
  refine ⟨a5, c5, ?_, t5, S4.out.below⟩
  rw [← e5]; rfl

theorem zzKeep_no (a : Option Addr) (n cap : Nat) (z : Nat → Int) (kind style ns en : Int) (start : Nat) (w : World) (ht : Text w a n z) (hc : n ≤ cap) (hs : start ≤ n) (hcol : collB kind style = false) (hcand : candB style en n = false) :
    Calls Try.prog 23 #[.slice a n cap, .int .i64 kind, .int .i64 style, .int .i64 ns, .int .i64 en, .int .i64 start] w fun e w' => ∃ a' c', e = .returned (.slice a' (seg z start n).length c') ∧ Text w' a' (seg z start n).length (fun k => (seg z start n).getD k 0) ∧ Below w.heap.size w w' := by
  have HT : ∀ o, Hid (Text (w.alloc o) a n z) := fun o => ht.below ((Below.refl _ w).alloc (Nat.le_refl _) o)
  have HB : ∀ o, Hid (Below w.heap.size w (w.alloc o)) := fun o => (Below.refl _ w).alloc (Nat.le_refl _) o
  clear ht
  go_enter Try.func23, Try.ntmps23
  go_wp2_with (go_at_call 38; go_in)
  refine (keep_no a n cap w.heap.size z kind style ns en start _ (by exact (HT _).out) hc hs ⟨by simp, by simp, by simp, by simp⟩ hcol hcand).mono ?_
  rintro _ w1 ⟨a', c', rfl, t1, b1⟩
  have HT1 : Hid (Text w1 a' (seg z start n).length (fun k => (seg z start n).getD k 0)) := t1
  have HB1 : Hid (Below w.heap.size w w1) := (HB _).out.trans (b1.mono (by simp))
  clear t1 b1
  go_wp2
  go_ret
  exact ⟨_, _, rfl, HT1.out, HB1.out⟩

theorem zzKeep_yes (a : Option Addr) (n cap : Nat) (z : Nat → Int) (kind style en : Int) (s h start : Nat) (w : World) (ht : Text w a n z) (hno : a = none → n = 0 ∧ cap = 0) (hc : n ≤ cap) (hs : start ≤ s) (hn : n ≤ 1048576) (hh : Hdr z n s h) (hcol : collB kind style = false) (hcand : candB style en n = true) :
    Calls Try.prog 23 #[.slice a n cap, .int .i64 kind, .int .i64 style, .int .i64 s, .int .i64 en, .int .i64 start] w fun e w' => ∃ a' c', e = .returned (.slice a' (keptL z n start (chomp z n h)).length c') ∧ Text w' a' (keptL z n start (chomp z n h)).length (fun k => (keptL z n start (chomp z n h)).getD k 0) ∧ Below w.heap.size w w' := by
  have HT : ∀ o, Hid (Text (w.alloc o) a n z) := fun o => ht.below ((Below.refl _ w).alloc (Nat.le_refl _) o)
  have HB : ∀ o, Hid (Below w.heap.size w (w.alloc o)) := fun o => (Below.refl _ w).alloc (Nat.le_refl _) o
  have HH : Hid (Hdr z n s h) := hh
  have HO : Hid (a = none → n = 0 ∧ cap = 0) := hno
  clear ht hh hno
  go_enter Try.func23, Try.ntmps23
  go_wp2_with (go_at_call 38; go_in)
  refine (keep_yes a n cap w.heap.size z kind style en s h start _ (by exact (HT _).out) HO.out hc hs hn HH.out ⟨by simp, by simp, by simp, by simp⟩ hcol hcand).mono ?_
  rintro _ w1 ⟨a', c', rfl, t1, b1⟩
  have HT1 : Hid (Text w1 a' (keptL z n start (chomp z n h)).length (fun k => (keptL z n start (chomp z n h)).getD k 0)) := t1
  have HB1 : Hid (Below w.heap.size w w1) := (HB _).out.trans (b1.mono (by simp))
  clear t1 b1
  go_wp2
  go_ret
  exact ⟨_, _, rfl, HT1.out, HB1.out⟩

end Go.Proofs.Qxb6602011a

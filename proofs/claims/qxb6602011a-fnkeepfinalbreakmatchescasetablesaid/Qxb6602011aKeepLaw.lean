import Derived.Test.Qxb6602011aMinus
import Derived.Test.Qxb6602011aFits
namespace Go.Proofs.Qxb6602011a
open Go.RowKit
open Plain

theorem seg_shift (z : Nat → Int) (st i j : Nat) : seg (from' z st) i j = seg z (st + i) (st + j) := by
  unfold seg
  rw [show st + j - (st + i) = j - i from by omega]
  apply List.map_congr_left
  intro k _
  show z (st + (i + k)) = z (st + i + k)
  rw [Nat.add_assoc]

theorem byteX_nz {z : Nat → Int} {n k : Nat} {c : Int} (hc : c ≠ 0) (h : byteX z n k = c) : k < n ∧ z k = c := by
  unfold byteX at h
  by_cases q : (k : Int) < n
  · rw [if_pos q, Int.toNat_natCast] at h
    exact ⟨by omega, h⟩
  · rw [if_neg q] at h; exact absurd h.symm hc

theorem byteX_in {z : Nat → Int} {n k : Nat} (h : k < n) : byteX z n k = z k := by
  unfold byteX; rw [if_pos (by omega), Int.toNat_natCast]

theorem chomp_1 {z : Nat → Int} {n h : Nat} {c : Int} (hc : c = 45 ∨ c = 43) (h1 : byteX z n ((h + 1 : Nat) : Int) = c) : chomp z n h = (h + 1, c) ∧ h + 1 < n := by
  obtain ⟨a, b⟩ := byteX_nz (by omega) h1
  refine ⟨?_, a⟩
  rw [chomp_hit (Nat.le_refl _) (by omega) a (fun k q1 q2 => by omega) (by unfold isInd; omega), b]

theorem not_ind {z : Nat → Int} {n k : Nat} (h1 : byteX z n k ≠ 45) (h2 : byteX z n k ≠ 43) (hk : k < n) : ¬ isInd (z k) := by
  rw [byteX_in hk] at h1 h2
  unfold isInd; omega

theorem chomp_2 {z : Nat → Int} {n h : Nat} {c : Int} (hc : c = 45 ∨ c = 43) (n1 : byteX z n ((h + 1 : Nat) : Int) ≠ 45) (n2 : byteX z n ((h + 1 : Nat) : Int) ≠ 43) (h1 : byteX z n ((h + 2 : Nat) : Int) = c) : chomp z n h = (h + 2, c) ∧ h + 2 < n := by
  obtain ⟨a, b⟩ := byteX_nz (by omega) h1
  refine ⟨?_, a⟩
  rw [chomp_hit (by omega) (by omega) a (fun k q1 q2 => ?_) (by unfold isInd; omega), b]
  obtain rfl : k = h + 1 := by omega
  exact not_ind n1 n2 (by omega)

theorem chomp_0 {z : Nat → Int} {n h : Nat} (n1 : byteX z n ((h + 1 : Nat) : Int) ≠ 45) (n2 : byteX z n ((h + 1 : Nat) : Int) ≠ 43) (n3 : byteX z n ((h + 2 : Nat) : Int) ≠ 45) (n4 : byteX z n ((h + 2 : Nat) : Int) ≠ 43) : chomp z n h = (h + 1, 0) := by
  refine chomp_none (fun k q1 q2 q3 => ?_)
  by_cases e : k = h + 1
  · subst e; exact not_ind n1 n2 q3
  · obtain rfl : k = h + 2 := by omega
    exact not_ind n3 n4 q3

theorem drewN_below {B : Nat} {w w' : World} {q : Nat} (h : Below B w w') : Below B w (w'.drewN q) := h.trans ⟨rfl, rfl, rfl, Nat.le_refl _, fun _ _ => rfl⟩

theorem Hid.below {w w' : World} {a : Option Addr} {n : Nat} {z : Nat → Int} (h : Hid (Text w a n z)) (hb : Below w.heap.size w w') : Hid (Text w' a n z) := h.out.below hb
theorem Hid.belowB {w0 w w' : World} (h : Hid (Below w0.heap.size w0 w)) (hb : Below w.heap.size w w') : Hid (Below w0.heap.size w0 w') := h.out.trans (hb.mono h.out.size)

theorem keep_law (a0 : Option Addr) (n0 c0 : Nat) (z : Nat → Int) (kind style ns en st : Int) (w : World) (ht : Text w a0 n0 z) (ha : a0 = none → n0 = 0 ∧ c0 = 0) (hm : n0 ≤ 9223372036854775807) :
    Calls Try.prog 7 #[.slice a0 n0 c0, .int .i64 kind, .int .i64 style, .int .i64 ns, .int .i64 en, .int .i64 st] w fun e w' => e = .returned (.bool true) ∧ Below w.heap.size w w' := by
  by_cases hbig : 1048576 < n0
  · clear ht ha
    go_enter Try.func7, Try.ntmps7
    go_wp2
    go_ret
    exact ⟨rfl, Below.refl _ _⟩
  have hle : n0 ≤ 1048576 := by omega
  have HT : Hid (Text w a0 n0 z) := ht
  have HA : Hid (a0 = none → n0 = 0 ∧ c0 = 0) := ha
  clear ht ha hm
  cases hfit : fitsB z n0 kind style ns en st with
  | false =>
    go_enter Try.func7, Try.ntmps7
    go_wp2_with (first | (go_at_call 20; go_in) | (go_at_call 21; refine (fits_any a0 n0 c0 z kind style ns en st _ HT.out hle).mono ?_; rintro e w' ⟨rfl, rfl⟩))
    go_ret
    exact ⟨rfl, Below.refl _ _⟩
  | true =>
    have hfit2 := hfit
    simp only [fitsB, Bool.and_eq_true, Bool.not_eq_true', Bool.or_eq_true, decide_eq_true_eq] at hfit2
    obtain ⟨⟨hcol, hs0, hs1⟩, hcd⟩ := hfit2
    obtain ⟨start, rfl⟩ := Int.eq_ofNat_of_zero_le hs0
    have hsn : start ≤ n0 := by omega
    cases hcand : candB style en n0 with
    | false =>
      clear hcd hs0 hs1
      have HCA : Hid (∀ w, Calls Try.prog 22 #[.int .i64 style, .int .i64 en, .int .i64 n0] w fun e w' => e = .returned (.bool false) ∧ w' = w) := by
        intro w
        rw [← hcand]; exact cand_any style en n0 w
      go_enter Try.func7, Try.ntmps7
      go_wp2_with (first | (go_at_call 20; go_in) | (go_at_call 21; refine (fits_any a0 n0 c0 z kind style ns en _ _ HT.out hle).mono ?_; rintro e w' ⟨rfl, rfl⟩))
      refine (clone_any a0 n0 c0 z w' HT.out hle HA.out).mono ?_
      rintro _ w1 ⟨ab, rfl, hob, hbel1⟩
      have C1 : Hid (Cl w' w1 ab n0 z) := cl_of hob hbel1
      clear hob hbel1
      have hfr := run_from ab n0 n0 start hsn
      go_wp2_with (go_at_call 22; refine (HCA.out _).mono ?_; rintro e wx ⟨rfl, rfl⟩)
      refine (zzKeep_no ab n0 n0 z kind style ns en start _ C1.out.text (Nat.le_refl _) hsn hcol hcand).mono ?_
      rintro e2 w2 ⟨ag, cg, he2, tg, bg⟩
      have hsl : (seg z start n0).length = n0 - start := seg_length _ _ _
      rw [hsl] at he2 tg
      subst he2
      have HG : Hid (Text w2 ag (n0 - start) (fun k => (seg z start n0).getD k 0)) := tg
      have HS : Hid (Text w2 (cutA ab start n0) (n0 - start) (fun k => (seg z start n0).getD k 0)) := by
        have := (C1.out.text.below bg).seg (c := n0) (st := start) (Nat.le_refl _)
        rw [hsl] at this
        exact this
      have HBB : Hid (Below w'.heap.size w' w2) := C1.out.below.trans (bg.mono C1.out.below.size)
      clear tg bg hsl
      generalize (fun k => (seg z start n0).getD k 0) = Z at *
      go_wp2_with fail
      refine (equal_any _ _ (n0 - start) _ _ Z _ HG.out HS.out (by omega)).mono ?_
      rintro _ w9 ⟨rfl, q, rfl⟩
      go_wp2
      go_ret
      exact ⟨rfl, drewN_below HBB.out⟩
    | true =>
      have hcd2 : 0 ≤ hdrX z n0 ns ∧ (start : Int) ≤ ns := by
        rcases hcd with h | h
        · rw [hcand] at h; cases h
        · exact h
      obtain ⟨s, h, rfl, hslt, hX, hH⟩ := hdrX_in hcd2.1
      have hss : start ≤ s := by omega
      have HH : Hid (Hdr z n0 s h) := hH
      have hhn := hH.lt
      have hsh := hH.le
      have HPH : Hid (∀ a cap w, Text w a n0 z → Calls Try.prog 24 #[.slice a n0 cap, .int .i64 s] w fun e w' => e = .returned (.int .i64 h) ∧ w' = w) := by
        intro a cap w ht
        rw [← hX]; exact plainHeader_any a n0 cap z s w ht hle
      have HCA : Hid (∀ w, Calls Try.prog 22 #[.int .i64 style, .int .i64 en, .int .i64 n0] w fun e w' => e = .returned (.bool true) ∧ w' = w) := by
        intro w
        rw [← hcand]; exact cand_any style en n0 w
      have hB1 : Hid (∀ a cap w, Text w a n0 z → Calls Try.prog 25 #[.slice a n0 cap, .int .i64 ((h : Int) + 1)] w fun e w' => e = .returned (.int .u8 (byteX z n0 ((h + 1 : Nat) : Int))) ∧ w' = w) := fun a cap w ht => byteAt_any a n0 cap z _ w ht (by omega)
      have hB2 : Hid (∀ a cap w, Text w a n0 z → Calls Try.prog 25 #[.slice a n0 cap, .int .i64 ((h : Int) + 2)] w fun e w' => e = .returned (.int .u8 (byteX z n0 ((h + 2 : Nat) : Int))) ∧ w' = w) := fun a cap w ht => byteAt_any a n0 cap z _ w ht (by omega)
      have k1 := fun c hc => chomp_1 (z := z) (n := n0) (h := h) (c := c) hc
      have k2 := fun c hc => chomp_2 (z := z) (n := n0) (h := h) (c := c) hc
      have k0 := chomp_0 (z := z) (n := n0) (h := h)
      generalize byteX z n0 ((h + 1 : Nat) : Int) = c1 at *
      generalize byteX z n0 ((h + 2 : Nat) : Int) = c2 at *
      clear hcd hcd2 hs0 hs1 hX hH
      cases q1 : (c1 == 45) with
      | true =>
        have e1 := (k1 45 (.inl rfl) (by simpa using q1)).1
        obtain ⟨LL, hLL⟩ : ∃ LL, LL = seg z start n0 := ⟨_, rfl⟩
        have HLL : Hid (keptL z n0 start (chomp z n0 h) = LL) := by
          show keptL z n0 start (chomp z n0 h) = LL
          rw [e1, hLL]; rfl
        have HM : Hid (seg z start n0 = LL) := by
          show seg z start n0 = LL
          exact hLL.symm
        have HLN : Hid (LL.length = (n0 - start)) := by
          show LL.length = (n0 - start)
          rw [hLL]; simp [seg_length]; try omega
        clear k1 k2 k0 e1 hLL
        go_enter Try.func7, Try.ntmps7
        go_wp2_with (first | (go_at_call 20; go_in) | (go_at_call 21; refine (fits_any a0 n0 c0 z kind style _ en _ _ HT.out hle).mono ?_; rintro e w' ⟨rfl, rfl⟩))
        refine (clone_any a0 n0 c0 z w' HT.out hle HA.out).mono ?_
        rintro _ w1 ⟨ab, rfl, hob, hbel1⟩
        have C1 : Hid (Cl w' w1 ab n0 z) := cl_of hob hbel1
        clear hob hbel1
        have hfr := run_from ab n0 n0 start hsn
        go_wp2_with (go_at_call 22; refine (HCA.out _).mono ?_; rintro e wx ⟨rfl, rfl⟩)
        refine (zzKeep_yes ab n0 n0 z kind style en s h start _ C1.out.text C1.out.nil (Nat.le_refl _) hss hle HH.out hcol hcand).mono ?_
        rintro e2 w2 ⟨ag, cg, he2, tg, bg⟩
        rw [HLL.out, HLN.out] at he2 tg
        subst he2
        have HG : Hid (Text w2 ag (n0 - start) (fun k => LL.getD k 0)) := tg
        have HTX : Hid (Text w2 ab n0 z) := C1.out.text.below bg
        have HBB : Hid (Below w'.heap.size w' w2) := C1.out.below.trans (bg.mono C1.out.below.size)
        have hws : w'.heap.size ≤ w2.heap.size := HBB.out.size
        clear tg bg
        go_wp2_with (go_at_call 24; refine (HPH.out ab n0 _ (by exact HTX.out)).mono ?_; rintro e wx ⟨rfl, rfl⟩)
        refine (hB1.out ab n0 _ HTX.out).mono ?_
        rintro e wx ⟨rfl, rfl⟩
        go_wp2_with fail
        refine (hB2.out ab n0 _ HTX.out).mono ?_
        rintro e wx ⟨rfl, rfl⟩
        go_wp2_with fail
        have HW0 := HTX.out.seg (c := n0) (st := start) (Nat.le_refl _)
        rw [HM.out, HLN.out] at HW0
        have HW : Hid (Text _ (cutA ab start n0) (n0 - start) (fun k => LL.getD k 0)) := HW0
        clear HW0
        refine (equal_any _ _ (n0 - start) _ _ (fun k => LL.getD k 0) _ HG.out HW.out (by omega)).mono ?_
        rintro _ w9 ⟨rfl, q, rfl⟩
        go_wp2
        go_ret
        exact ⟨rfl, drewN_below HBB.out⟩
      | false =>
        cases q2 : (c1 == 43) with
        | true =>
          have e0 := (k1 43 (.inr rfl) (by simpa using q2)).2
          have e1 := (k1 43 (.inr rfl) (by simpa using q2)).1
          obtain ⟨LL, hLL⟩ : ∃ LL, LL = (seg z start n0).set (h + 1 - start) 45 := ⟨_, rfl⟩
          have HLL : Hid (keptL z n0 start (chomp z n0 h) = LL) := by
            show keptL z n0 start (chomp z n0 h) = LL
            rw [e1, hLL]; rfl
          have HM : Hid (((List.range (n0 - start)).map (from' z start)).set (h + 1 - start) 45 = LL) := by
            show ((List.range (n0 - start)).map (from' z start)).set (h + 1 - start) 45 = LL
            exact hLL.symm
          have HLN : Hid (LL.length = (n0 - start)) := by
            show LL.length = (n0 - start)
            rw [hLL]; simp [seg_length]; try omega
          clear k1 k2 k0 e1 hLL
          go_enter Try.func7, Try.ntmps7
          go_wp2_with (first | (go_at_call 20; go_in) | (go_at_call 21; refine (fits_any a0 n0 c0 z kind style _ en _ _ HT.out hle).mono ?_; rintro e w' ⟨rfl, rfl⟩))
          refine (clone_any a0 n0 c0 z w' HT.out hle HA.out).mono ?_
          rintro _ w1 ⟨ab, rfl, hob, hbel1⟩
          have C1 : Hid (Cl w' w1 ab n0 z) := cl_of hob hbel1
          clear hob hbel1
          have hfr := run_from ab n0 n0 start hsn
          go_wp2_with (go_at_call 22; refine (HCA.out _).mono ?_; rintro e wx ⟨rfl, rfl⟩)
          refine (zzKeep_yes ab n0 n0 z kind style en s h start _ C1.out.text C1.out.nil (Nat.le_refl _) hss hle HH.out hcol hcand).mono ?_
          rintro e2 w2 ⟨ag, cg, he2, tg, bg⟩
          rw [HLL.out, HLN.out] at he2 tg
          subst he2
          have HG : Hid (Text w2 ag (n0 - start) (fun k => LL.getD k 0)) := tg
          have HTX : Hid (Text w2 ab n0 z) := C1.out.text.below bg
          have HBB : Hid (Below w'.heap.size w' w2) := C1.out.below.trans (bg.mono C1.out.below.size)
          have hws : w'.heap.size ≤ w2.heap.size := HBB.out.size
          clear tg bg
          go_wp2_with (go_at_call 24; refine (HPH.out ab n0 _ (by exact HTX.out)).mono ?_; rintro e wx ⟨rfl, rfl⟩)
          refine (hB1.out ab n0 _ HTX.out).mono ?_
          rintro e wx ⟨rfl, rfl⟩
          go_wp2_with fail
          refine (hB2.out ab n0 _ HTX.out).mono ?_
          rintro e wx ⟨rfl, rfl⟩
          go_wp2_with fail
          refine (minusAt_any (cutA ab start n0) (n0 - start) (n0 - start) (from' z start) _ (h + 1 - start) _ (HTX.out.cut (Nat.le_refl _)) (by omega) (by omega) (by omega)).mono ?_
          rintro e3 w3 ⟨aw, cw, he3, tw, bw⟩
          rw [HM.out, HLN.out] at he3 tw
          subst he3
          have HW : Hid (Text w3 aw (n0 - start) (fun k => LL.getD k 0)) := tw
          have HG := Hid.below HG bw
          have HBB := Hid.belowB HBB bw
          clear tw bw
          go_wp2_with fail
          refine (equal_any _ _ (n0 - start) _ _ (fun k => LL.getD k 0) _ HG.out HW.out (by omega)).mono ?_
          rintro _ w9 ⟨rfl, q, rfl⟩
          go_wp2
          go_ret
          exact ⟨rfl, drewN_below HBB.out⟩
        | false =>
          cases q3 : (c2 == 45) with
          | true =>
            have e1 := (k2 45 (.inl rfl) (by simpa using q1) (by simpa using q2) (by simpa using q3)).1
            obtain ⟨LL, hLL⟩ : ∃ LL, LL = seg z start n0 := ⟨_, rfl⟩
            have HLL : Hid (keptL z n0 start (chomp z n0 h) = LL) := by
              show keptL z n0 start (chomp z n0 h) = LL
              rw [e1, hLL]; rfl
            have HM : Hid (seg z start n0 = LL) := by
              show seg z start n0 = LL
              exact hLL.symm
            have HLN : Hid (LL.length = (n0 - start)) := by
              show LL.length = (n0 - start)
              rw [hLL]; simp [seg_length]; try omega
            clear k1 k2 k0 e1 hLL
            go_enter Try.func7, Try.ntmps7
            go_wp2_with (first | (go_at_call 20; go_in) | (go_at_call 21; refine (fits_any a0 n0 c0 z kind style _ en _ _ HT.out hle).mono ?_; rintro e w' ⟨rfl, rfl⟩))
            refine (clone_any a0 n0 c0 z w' HT.out hle HA.out).mono ?_
            rintro _ w1 ⟨ab, rfl, hob, hbel1⟩
            have C1 : Hid (Cl w' w1 ab n0 z) := cl_of hob hbel1
            clear hob hbel1
            have hfr := run_from ab n0 n0 start hsn
            go_wp2_with (go_at_call 22; refine (HCA.out _).mono ?_; rintro e wx ⟨rfl, rfl⟩)
            refine (zzKeep_yes ab n0 n0 z kind style en s h start _ C1.out.text C1.out.nil (Nat.le_refl _) hss hle HH.out hcol hcand).mono ?_
            rintro e2 w2 ⟨ag, cg, he2, tg, bg⟩
            rw [HLL.out, HLN.out] at he2 tg
            subst he2
            have HG : Hid (Text w2 ag (n0 - start) (fun k => LL.getD k 0)) := tg
            have HTX : Hid (Text w2 ab n0 z) := C1.out.text.below bg
            have HBB : Hid (Below w'.heap.size w' w2) := C1.out.below.trans (bg.mono C1.out.below.size)
            have hws : w'.heap.size ≤ w2.heap.size := HBB.out.size
            clear tg bg
            go_wp2_with (go_at_call 24; refine (HPH.out ab n0 _ (by exact HTX.out)).mono ?_; rintro e wx ⟨rfl, rfl⟩)
            refine (hB1.out ab n0 _ HTX.out).mono ?_
            rintro e wx ⟨rfl, rfl⟩
            go_wp2_with fail
            refine (hB2.out ab n0 _ HTX.out).mono ?_
            rintro e wx ⟨rfl, rfl⟩
            go_wp2_with fail
            have HW0 := HTX.out.seg (c := n0) (st := start) (Nat.le_refl _)
            rw [HM.out, HLN.out] at HW0
            have HW : Hid (Text _ (cutA ab start n0) (n0 - start) (fun k => LL.getD k 0)) := HW0
            clear HW0
            refine (equal_any _ _ (n0 - start) _ _ (fun k => LL.getD k 0) _ HG.out HW.out (by omega)).mono ?_
            rintro _ w9 ⟨rfl, q, rfl⟩
            go_wp2
            go_ret
            exact ⟨rfl, drewN_below HBB.out⟩
          | false =>
            cases q4 : (c2 == 43) with
            | true =>
              have e0 := (k2 43 (.inr rfl) (by simpa using q1) (by simpa using q2) (by simpa using q4)).2
              have e1 := (k2 43 (.inr rfl) (by simpa using q1) (by simpa using q2) (by simpa using q4)).1
              obtain ⟨LL, hLL⟩ : ∃ LL, LL = (seg z start n0).set (h + 2 - start) 45 := ⟨_, rfl⟩
              have HLL : Hid (keptL z n0 start (chomp z n0 h) = LL) := by
                show keptL z n0 start (chomp z n0 h) = LL
                rw [e1, hLL]; rfl
              have HM : Hid (((List.range (n0 - start)).map (from' z start)).set (h + 2 - start) 45 = LL) := by
                show ((List.range (n0 - start)).map (from' z start)).set (h + 2 - start) 45 = LL
                exact hLL.symm
              have HLN : Hid (LL.length = (n0 - start)) := by
                show LL.length = (n0 - start)
                rw [hLL]; simp [seg_length]; try omega
              clear k1 k2 k0 e1 hLL
              go_enter Try.func7, Try.ntmps7
              go_wp2_with (first | (go_at_call 20; go_in) | (go_at_call 21; refine (fits_any a0 n0 c0 z kind style _ en _ _ HT.out hle).mono ?_; rintro e w' ⟨rfl, rfl⟩))
              refine (clone_any a0 n0 c0 z w' HT.out hle HA.out).mono ?_
              rintro _ w1 ⟨ab, rfl, hob, hbel1⟩
              have C1 : Hid (Cl w' w1 ab n0 z) := cl_of hob hbel1
              clear hob hbel1
              have hfr := run_from ab n0 n0 start hsn
              go_wp2_with (go_at_call 22; refine (HCA.out _).mono ?_; rintro e wx ⟨rfl, rfl⟩)
              refine (zzKeep_yes ab n0 n0 z kind style en s h start _ C1.out.text C1.out.nil (Nat.le_refl _) hss hle HH.out hcol hcand).mono ?_
              rintro e2 w2 ⟨ag, cg, he2, tg, bg⟩
              rw [HLL.out, HLN.out] at he2 tg
              subst he2
              have HG : Hid (Text w2 ag (n0 - start) (fun k => LL.getD k 0)) := tg
              have HTX : Hid (Text w2 ab n0 z) := C1.out.text.below bg
              have HBB : Hid (Below w'.heap.size w' w2) := C1.out.below.trans (bg.mono C1.out.below.size)
              have hws : w'.heap.size ≤ w2.heap.size := HBB.out.size
              clear tg bg
              go_wp2_with (go_at_call 24; refine (HPH.out ab n0 _ (by exact HTX.out)).mono ?_; rintro e wx ⟨rfl, rfl⟩)
              refine (hB1.out ab n0 _ HTX.out).mono ?_
              rintro e wx ⟨rfl, rfl⟩
              go_wp2_with fail
              refine (hB2.out ab n0 _ HTX.out).mono ?_
              rintro e wx ⟨rfl, rfl⟩
              go_wp2_with fail
              refine (minusAt_any (cutA ab start n0) (n0 - start) (n0 - start) (from' z start) _ (h + 2 - start) _ (HTX.out.cut (Nat.le_refl _)) (by omega) (by omega) (by omega)).mono ?_
              rintro e3 w3 ⟨aw, cw, he3, tw, bw⟩
              rw [HM.out, HLN.out] at he3 tw
              subst he3
              have HW : Hid (Text w3 aw (n0 - start) (fun k => LL.getD k 0)) := tw
              have HG := Hid.below HG bw
              have HBB := Hid.belowB HBB bw
              clear tw bw
              go_wp2_with fail
              refine (equal_any _ _ (n0 - start) _ _ (fun k => LL.getD k 0) _ HG.out HW.out (by omega)).mono ?_
              rintro _ w9 ⟨rfl, q, rfl⟩
              go_wp2
              go_ret
              exact ⟨rfl, drewN_below HBB.out⟩
            | false =>
              have e1 := k0 (by simpa using q1) (by simpa using q2) (by simpa using q3) (by simpa using q4)
              obtain ⟨LL, hLL⟩ : ∃ LL, LL = seg z start (h + 1) ++ 45 :: seg z (h + 1) n0 := ⟨_, rfl⟩
              have HLL : Hid (keptL z n0 start (chomp z n0 h) = LL) := by
                show keptL z n0 start (chomp z n0 h) = LL
                rw [e1, hLL]; rfl
              have HM : Hid (seg (from' z start) 0 (h + 1 - start) ++ 45 :: seg (from' z start) (h + 1 - start) (n0 - start) = LL) := by
                show seg (from' z start) 0 (h + 1 - start) ++ 45 :: seg (from' z start) (h + 1 - start) (n0 - start) = LL
                rw [seg_shift, seg_shift, hLL, Nat.add_zero, show start + (h + 1 - start) = h + 1 from by omega, show start + (n0 - start) = n0 from by omega]
              have HLN : Hid (LL.length = (n0 - start + 1)) := by
                show LL.length = (n0 - start + 1)
                rw [hLL]; simp [seg_length]; try omega
              clear k1 k2 k0 e1 hLL
              go_enter Try.func7, Try.ntmps7
              go_wp2_with (first | (go_at_call 20; go_in) | (go_at_call 21; refine (fits_any a0 n0 c0 z kind style _ en _ _ HT.out hle).mono ?_; rintro e w' ⟨rfl, rfl⟩))
              refine (clone_any a0 n0 c0 z w' HT.out hle HA.out).mono ?_
              rintro _ w1 ⟨ab, rfl, hob, hbel1⟩
              have C1 : Hid (Cl w' w1 ab n0 z) := cl_of hob hbel1
              clear hob hbel1
              have hfr := run_from ab n0 n0 start hsn
              go_wp2_with (go_at_call 22; refine (HCA.out _).mono ?_; rintro e wx ⟨rfl, rfl⟩)
              refine (zzKeep_yes ab n0 n0 z kind style en s h start _ C1.out.text C1.out.nil (Nat.le_refl _) hss hle HH.out hcol hcand).mono ?_
              rintro e2 w2 ⟨ag, cg, he2, tg, bg⟩
              rw [HLL.out, HLN.out] at he2 tg
              subst he2
              have HG : Hid (Text w2 ag (n0 - start + 1) (fun k => LL.getD k 0)) := tg
              have HTX : Hid (Text w2 ab n0 z) := C1.out.text.below bg
              have HBB : Hid (Below w'.heap.size w' w2) := C1.out.below.trans (bg.mono C1.out.below.size)
              have hws : w'.heap.size ≤ w2.heap.size := HBB.out.size
              clear tg bg
              go_wp2_with (go_at_call 24; refine (HPH.out ab n0 _ (by exact HTX.out)).mono ?_; rintro e wx ⟨rfl, rfl⟩)
              refine (hB1.out ab n0 _ HTX.out).mono ?_
              rintro e wx ⟨rfl, rfl⟩
              go_wp2_with fail
              refine (hB2.out ab n0 _ HTX.out).mono ?_
              rintro e wx ⟨rfl, rfl⟩
              go_wp2_with fail
              refine (minusIn_any (cutA ab start n0) (n0 - start) (n0 - start) (from' z start) _ (h + 1 - start) _ (HTX.out.cut (Nat.le_refl _)) (cutA_none C1.out.nil) (Nat.le_refl _) (by omega) (by omega) (by omega)).mono ?_
              rintro e3 w3 ⟨aw, cw, he3, tw, bw⟩
              rw [HM.out, HLN.out] at he3 tw
              subst he3
              have HW : Hid (Text w3 aw (n0 - start + 1) (fun k => LL.getD k 0)) := tw
              have HG := Hid.below HG bw
              have HBB := Hid.belowB HBB bw
              clear tw bw
              go_wp2_with fail
              refine (equal_any _ _ (n0 - start + 1) _ _ (fun k => LL.getD k 0) _ HG.out HW.out (by omega)).mono ?_
              rintro _ w9 ⟨rfl, q, rfl⟩
              go_wp2
              go_ret
              exact ⟨rfl, drewN_below HBB.out⟩

end Go.Proofs.Qxb6602011a

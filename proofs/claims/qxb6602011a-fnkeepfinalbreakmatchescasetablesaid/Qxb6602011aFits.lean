import Derived.Test.Qxb6602011aHeader
import Derived.Test.Qxb6602011aChomp
namespace Go.Proofs.Qxb6602011a
open Go.RowKit
open Plain

theorem coll_any (kind style : Int) (w : World) :
    Calls Try.prog 36 #[.int .i64 kind, .int .i64 style] w fun e w' => e = .returned (.bool (collB kind style)) ∧ w' = w := by
  unfold collB
  cases h2 : (kind == 2) with
  | true =>
    cases h5 : (style != 5) <;>
    · go_enter Try.func36, Try.ntmps36
      go_wp2
      go_ret
      exact ⟨rfl, rfl⟩
  | false =>
    cases h3 : (kind == 3) <;> cases h5 : (style != 5) <;>
    · go_enter Try.func36, Try.ntmps36
      go_wp2
      go_ret
      exact ⟨rfl, rfl⟩

theorem cand_any (style en : Int) (n : Nat) (w : World) :
    Calls Try.prog 22 #[.int .i64 style, .int .i64 en, .int .i64 n] w fun e w' => e = .returned (.bool (candB style en n)) ∧ w' = w := by
  unfold candB
  cases h3 : (style == 3) <;> cases h4 : (style == 4) <;> cases he : (en == n) <;>
  · go_enter Try.func22, Try.ntmps22
    go_wp2
    go_ret
    exact ⟨rfl, rfl⟩

def hdrX (z : Nat → Int) (n : Nat) (ns : Int) : Int := if 0 ≤ ns ∧ ns < n then hdrI z n ns.toNat else -1

theorem plainHeader_any (a : Option Addr) (n cap : Nat) (z : Nat → Int) (ns : Int) (w : World) (ht : Text w a n z) (hn : n ≤ 1048576) :
    Calls Try.prog 24 #[.slice a n cap, .int .i64 ns] w fun e w' => e = .returned (.int .i64 (hdrX z n ns)) ∧ w' = w := by
  by_cases h : 0 ≤ ns ∧ ns < n
  · obtain ⟨s, rfl⟩ := Int.eq_ofNat_of_zero_le h.1
    have e : hdrX z n (s : Int) = hdrI z n s := by unfold hdrX; rw [if_pos h, Int.toNat_natCast]
    rw [e]
    exact plainHeader_in a n cap z s w ht hn (by omega)
  · have e : hdrX z n ns = -1 := by unfold hdrX; rw [if_neg h]
    rw [e]
    exact plainHeader_out a n cap ns w (by omega)

theorem hdrI_ge (z : Nat → Int) (n s : Nat) : -1 ≤ hdrI z n s ∧ (0 ≤ hdrI z n s → ∃ h, hdr z n s = some h ∧ hdrI z n s = h) := by
  unfold hdrI
  cases e : hdr z n s with
  | none => exact ⟨by simp, fun h => by simp at h⟩
  | some h => exact ⟨by simp, fun _ => ⟨h, rfl, rfl⟩⟩

theorem hdrX_in {z : Nat → Int} {n : Nat} {ns : Int} (h : 0 ≤ hdrX z n ns) : ∃ s hd : Nat, ns = s ∧ s < n ∧ hdrX z n ns = hd ∧ Hdr z n s hd := by
  unfold hdrX at h ⊢
  by_cases c : 0 ≤ ns ∧ ns < n
  · rw [if_pos c] at h ⊢
    obtain ⟨s, rfl⟩ := Int.eq_ofNat_of_zero_le c.1
    rw [Int.toNat_natCast] at h ⊢
    obtain ⟨hd, e1, e2⟩ := (hdrI_ge z n s).2 h
    exact ⟨s, hd, rfl, by omega, e2, hdr_facts (by omega) e1⟩
  · rw [if_neg c] at h; omega

/-- zzB1KeepFitsWide. -/
def fitsB (z : Nat → Int) (n : Nat) (kind style ns en st : Int) : Bool :=
  !(collB kind style) && (decide (0 ≤ st) && decide (st ≤ n)) && (!(candB style en n) || (decide (0 ≤ hdrX z n ns) && decide (st ≤ ns)))

theorem fits_any (a : Option Addr) (n cap : Nat) (z : Nat → Int) (kind style ns en st : Int) (w : World) (ht : Text w a n z) (hn : n ≤ 1048576) :
    Calls Try.prog 21 #[.slice a n cap, .int .i64 kind, .int .i64 style, .int .i64 ns, .int .i64 en, .int .i64 st] w fun e w' => e = .returned (.bool (fitsB z n kind style ns en st)) ∧ w' = w := by
  have HT : Hid (Text w a n z) := ht
  clear ht
  unfold fitsB
  have hX : -1 ≤ hdrX z n ns := by
    unfold hdrX; split
    · exact (hdrI_ge z n _).1
    · omega
  generalize hx : hdrX z n ns = X at *
  have HP : Hid (∀ w, Text w a n z → Calls Try.prog 24 #[.slice a n cap, .int .i64 ns] w fun e w' => e = .returned (.int .i64 X) ∧ w' = w) := by
    intro w h
    rw [← hx]; exact plainHeader_any a n cap z ns w h hn
  clear hx
  have HC : Hid (∀ w, Calls Try.prog 36 #[.int .i64 kind, .int .i64 style] w fun e w' => e = .returned (.bool (collB kind style)) ∧ w' = w) := coll_any kind style
  have HD : Hid (∀ w, Calls Try.prog 22 #[.int .i64 style, .int .i64 en, .int .i64 n] w fun e w' => e = .returned (.bool (candB style en n)) ∧ w' = w) := cand_any style en n
  generalize collB kind style = c at *
  generalize candB style en n = d at *
  cases c with
  | true =>
    go_enter Try.func21, Try.ntmps21
    go_wp2_with (go_at_call 36; refine (HC.out _).mono ?_; rintro e w' ⟨rfl, rfl⟩)
    go_ret
    exact ⟨rfl, rfl⟩
  | false =>
    by_cases h0 : st < 0
    · have h0' : ¬ 0 ≤ st := by omega
      go_enter Try.func21, Try.ntmps21
      go_wp2_with (go_at_call 36; refine (HC.out _).mono ?_; rintro e w' ⟨rfl, rfl⟩)
      go_ret
      exact ⟨ret_bool (by simp; omega), rfl⟩
    · by_cases h1 : (n : Int) < st
      · have h1' : ¬ st ≤ n := by omega
        go_enter Try.func21, Try.ntmps21
        go_wp2_with (go_at_call 36; refine (HC.out _).mono ?_; rintro e w' ⟨rfl, rfl⟩)
        go_ret
        exact ⟨ret_bool (by simp; omega), rfl⟩
      · have h0' : 0 ≤ st := by omega
        have h1' : st ≤ n := by omega
        cases d with
        | false =>
          go_enter Try.func21, Try.ntmps21
          go_wp2_with (first | (go_at_call 36; refine (HC.out _).mono ?_; rintro e w' ⟨rfl, rfl⟩) | (go_at_call 22; refine (HD.out _).mono ?_; rintro e w' ⟨rfl, rfl⟩))
          go_ret
          exact ⟨ret_bool (by simp; omega), rfl⟩
        | true =>
          by_cases hX0 : X < 0
          · have hX1 : ¬ 0 ≤ X := by omega
            go_enter Try.func21, Try.ntmps21
            go_wp2_with (first | (go_at_call 36; refine (HC.out _).mono ?_; rintro e w' ⟨rfl, rfl⟩) | (go_at_call 22; refine (HD.out _).mono ?_; rintro e w' ⟨rfl, rfl⟩) | (go_at_call 24; refine (HP.out _ (by exact HT.out)).mono ?_; rintro e w' ⟨rfl, rfl⟩))
            go_ret
            exact ⟨ret_bool (by simp; omega), rfl⟩
          · have hX1 : 0 ≤ X := by omega
            by_cases hsn : ns < st
            · have hsn' : ¬ st ≤ ns := by omega
              go_enter Try.func21, Try.ntmps21
              go_wp2_with (first | (go_at_call 36; refine (HC.out _).mono ?_; rintro e w' ⟨rfl, rfl⟩) | (go_at_call 22; refine (HD.out _).mono ?_; rintro e w' ⟨rfl, rfl⟩) | (go_at_call 24; refine (HP.out _ (by exact HT.out)).mono ?_; rintro e w' ⟨rfl, rfl⟩))
              go_ret
              exact ⟨ret_bool (by simp; omega), rfl⟩
            · have hsn' : st ≤ ns := by omega
              go_enter Try.func21, Try.ntmps21
              go_wp2_with (first | (go_at_call 36; refine (HC.out _).mono ?_; rintro e w' ⟨rfl, rfl⟩) | (go_at_call 22; refine (HD.out _).mono ?_; rintro e w' ⟨rfl, rfl⟩) | (go_at_call 24; refine (HP.out _ (by exact HT.out)).mono ?_; rintro e w' ⟨rfl, rfl⟩))
              go_ret
              exact ⟨ret_bool (by simp; omega), rfl⟩

end Go.Proofs.Qxb6602011a

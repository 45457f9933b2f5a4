import Derived.Test.Qxb6602011aEnd
import Derived.Test.Qxb6602011aModelWalk
namespace Go.Proofs.Qxb6602011a
open Go.RowKit

theorem model_law (a0 : Option Addr) (len0 cap0 : Nat) (z : Nat → Int) (a1 : Int) (a2 : Int) (w : World) (ht : Text w a0 len0 z) (ha : a0 = none → len0 = 0 ∧ cap0 = 0) (hb1 : -9223372036854775808 ≤ a2) (hb2 : a2 ≤ 9223372036854775807) :
    Calls Try.prog 3 #[.slice a0 len0 cap0, .int .i64 a1, .int .i64 a2] w fun e w' => e = .returned (.bool true) ∧ Below w.heap.size w w' := by
  by_cases hbig : 1048576 < len0
  · clear ht ha
    go_enter Try.func3, Try.ntmps3
    go_wp2
    go_ret
    exact ⟨rfl, Below.refl _ _⟩
  · by_cases hneg : a1 < 0
    · clear ht ha
      go_enter Try.func3, Try.ntmps3
      go_wp2
      go_ret
      exact ⟨rfl, Below.refl _ _⟩
    · obtain ⟨e, rfl⟩ := Int.eq_ofNat_of_zero_le (by omega : 0 ≤ a1)
      by_cases hov : (len0 : Int) < e
      · clear ht ha
        go_enter Try.func3, Try.ntmps3
        go_wp2
        go_ret
        exact ⟨rfl, Below.refl _ _⟩
      · have he : e ≤ len0 := by omega
        have hle : len0 ≤ 1048576 := by omega
        have HT : Hid (Text w a0 len0 z) := ht
        have HA : Hid (a0 = none → len0 = 0 ∧ cap0 = 0) := ha
        clear ht ha
        go_enter Try.func3, Try.ntmps3
        go_wp2_with (go_at_call 10; go_in)
        refine (clone_any a0 len0 cap0 z w HT.out hle HA.out).mono ?_
        rintro _ w1 ⟨a', rfl, hown, hbel⟩
        have ht1 := text_of_owns hown
        have HT1 : Hid (Text w1 a' len0 z) := ht1
        have HB1 : Hid (Below w.heap.size w w1) := hbel
        have hsz := hbel.size
        clear ht1 hown hbel
        go_wp2_with fail
        refine (zzPartEnd_any a' len0 len0 z e a2 w1 HT1.out hle he hb1 hb2).mono ?_
        rintro _ w2 ⟨rfl, hbel2⟩
        have HT2 : Hid (Text w2 a' len0 z) := HT1.out.below hbel2
        have HB2 : Hid (Below w.heap.size w w2) := HB1.out.trans (hbel2.mono hsz)
        have hsz2 : w.heap.size ≤ w2.heap.size := Nat.le_trans hsz hbel2.size
        clear hbel2
        go_wp2_with fail
        refine (model_any a' len0 len0 z e a2 w2 HT2.out hle he hb1 hb2).mono ?_
        rintro _ w3 ⟨rfl, hbel3⟩
        have HB3 : Hid (Below w.heap.size w w3) := HB2.out.trans (hbel3.mono hsz2)
        clear hbel3
        generalize Plain.partEnd z len0 a2 e = r
        go_wp2
        go_ret
        exact ⟨rfl, HB3.out⟩

end Go.Proofs.Qxb6602011a

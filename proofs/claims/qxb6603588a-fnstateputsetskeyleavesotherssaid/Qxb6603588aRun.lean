import Derived.Test.Qxb6603588aCopy
import Derived.Deep.RegionWith
namespace Go.Proofs.Qxb6603588a
open Go.RowKit Go.Maps

theorem OpsAt.belowB {B : Nat} {w w' : World} {a : Option Addr} {n : Nat} {kf vf : Nat → ByteArray} {df : Nat → Bool} (h : OpsAt w a n kf vf df) (hb : Below B w w') (hlo : ∀ x, a = some x → x.block < B) : OpsAt w' a n kf vf df := by
  intro i hi
  obtain ⟨b, off, rfl, c0, c1, c2⟩ := h i hi
  have hl : b < B := hlo _ rfl
  exact ⟨b, off, rfl, (hb.cell (p := ⟨b, off + i * 3, none⟩) hl).trans c0, (hb.cell (p := ⟨b, off + i * 3 + 1, none⟩) hl).trans c1, (hb.cell (p := ⟨b, off + i * 3 + 2, none⟩) hl).trans c2⟩

theorem grown_drew (w : World) (row : Option Nat) : w.grownBy w.drew row := ⟨rfl, rfl, rfl, Nat.le_refl _, fun _ _ _ => rfl⟩

theorem SI.drew {w : World} {B n sb : Nat} {mc md : Option Nat} {f : Key → Option ByteArray} (h : SI w B n sb mc md f) : SI w.drew B n sb mc md f :=
  ⟨h.hB, h.lt, h.root, h.c, h.cf, h.d, h.df, h.ms.kept (grown_drew w none) (by cases mc <;> simp), h.md'.kept (grown_drew w none) (by cases md <;> simp), h.ne1, h.ne2, h.ne3⟩

set_option maxHeartbeats 400000 in
theorem run_any (B sb : Nat) (mc md : Option Nat) (a : Option Addr) (n cap : Nat) (kf vf : Nat → ByteArray) (df : Nat → Bool) (w : World) (h : OpsAt w a n kf vf df) (hn : n ≤ 1048576) (hlo : ∀ x, a = some x → x.block < B) (hsz : ∀ i, i < n → (kf i).size ≤ maxLen ∧ (vf i).size ≤ maxLen) (hs : SI w B 0 sb mc md (left kf vf df 0)) :
    Calls Try.prog 8 #[.pointer (some ⟨sb, 0, none⟩), .slice a n cap] w fun e w' => e = .returned (.tuple #[]) ∧ (∃ mc md, SI w' B n sb mc md (left kf vf df n)) ∧ Below B w w' := by
  have HO : Hid (OpsAt w a n kf vf df) := h
  have HL : Hid (∀ x, a = some x → x.block < B) := hlo
  have HZ : Hid (∀ i, i < n → (kf i).size ≤ maxLen ∧ (vf i).size ≤ maxLen) := hsz
  have HS : Hid (SI w B 0 sb mc md (left kf vf df 0)) := hs
  clear h hlo hsz hs
  go_enter Try.func8, Try.ntmps8
  go_wp2
  go_loopw [4] (fun v wr => ∃ (i : Nat) (mc md : Option Nat), i ≤ n ∧ v = .int .i64 i ∧ Hid (SI wr B i sb mc md (left kf vf df i)) ∧ Hid (Below B w wr)) (fun v _ => n - (intOf v).toNat)
  case atStart => exact ⟨0, mc, md, Nat.zero_le _, rfl, HS, Below.refl _ _⟩
  case round =>
    obtain ⟨i, mc, md, hin, rfl, hsi, hbe⟩ := hrel
    by_cases hlt : i < n
    · have hlt' : (i : Int) < (n : Int) := by omega
      obtain ⟨b, off, hae, c0, c1, c2⟩ := (HO.out.belowB hbe.out HL.out) i hlt
      cases hae
      obtain ⟨z1, z2⟩ := HZ.out i hlt
      have him : i < maxLen := by unfold maxLen; omega
      cases hd : df i with
      | true =>
        rw [hd] at c2
        go_wp2_with fail
        refine (del_any B i sb mc md (left kf vf df i) (kf i) _ hsi.out him z1).mono ?_
        rintro _ w2 ⟨rfl, ⟨md2, hs2⟩, hb2⟩
        have HS2 : Hid (SI w2 B (i + 1) sb mc md2 (left kf vf df (i + 1))) := by
          show SI w2 B (i + 1) sb mc md2 (left kf vf df (i + 1))
          rw [left_step, hd]; exact hs2
        have HB2 : Hid (Below B w w2) := hbe.out.trans hb2
        clear hs2 hb2 c0 c1 c2 hd
        go_wp2
        go_roundw
        case rel => exact ⟨i + 1, mc, md2, by omega, by go_num, HS2, HB2⟩
        case measure => simp [intOf]; omega
      | false =>
        rw [hd] at c2
        go_wp2_with fail
        go_region_with (go_at_call 12; refine (put_any B i sb mc md (left kf vf df i) (kf i) (vf i) _ (by exact hsi.out.drew) him z1 z2).mono ?_; rintro _ w2 ⟨rfl, ⟨mc2, hs2⟩, hb2⟩)
        all_goals
          have HS2 : Hid (SI w2 B (i + 1) sb mc2 md (left kf vf df (i + 1))) := by
            show SI w2 B (i + 1) sb mc2 md (left kf vf df (i + 1))
            rw [left_step, hd]; exact hs2
          have HB2 : Hid (Below B w w2) := hbe.out.drew.trans hb2
          clear hs2 hb2 c0 c1 c2 hd
          go_wp2
          go_roundw
          case rel => exact ⟨i + 1, mc2, md, by omega, by go_num, HS2, HB2⟩
          case measure => simp [intOf]; omega
    · obtain rfl : i = n := by omega
      go_wp2
      go_end0
      exact ⟨rfl, ⟨mc, md, hsi.out⟩, hbe.out⟩

end Go.Proofs.Qxb6603588a

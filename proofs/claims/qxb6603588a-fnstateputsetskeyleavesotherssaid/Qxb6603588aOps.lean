import Derived.Test.Qxb6603588aPut
import Derived.Deep.QuietTactic
import Derived.BigQuiet
namespace Go.Proofs.Qxb6603588a
open Go.RowKit Go.Maps

/-- What a walk is told of a script: the slice at a holds n steps. -/
def OpsAt (w : World) (a : Option Addr) (n : Nat) (kf vf : Nat → ByteArray) (df : Nat → Bool) : Prop :=
  ∀ i, i < n → ∃ b off, a = some ⟨b, off, none⟩ ∧ w.cell? ⟨b, off + i * 3, none⟩ = some (.string (kf i)) ∧ w.cell? ⟨b, off + i * 3 + 1, none⟩ = some (.string (vf i)) ∧ w.cell? ⟨b, off + i * 3 + 2, none⟩ = some (.bool (df i))

/-- What a script leaves at a key. -/
def left (kf vf : Nat → ByteArray) (df : Nat → Bool) : Nat → Key → Option ByteArray
  | 0, _ => none
  | i + 1, k => if (kf i).data.toList = k then (if df i then none else some (vf i)) else left kf vf df i k

theorem left_step (kf vf : Nat → ByteArray) (df : Nat → Bool) (i : Nat) : left kf vf df (i + 1) = upd (left kf vf df i) (kf i).data.toList (if df i then none else some (vf i)) := by
  funext k
  simp only [left, upd]
  by_cases e : (kf i).data.toList = k
  · rw [if_pos e, if_pos e.symm]
  · rw [if_neg e, if_neg (fun q => e q.symm)]

theorem lastWrite_any (a : Option Addr) (n cap : Nat) (kf vf : Nat → ByteArray) (df : Nat → Bool) (s : ByteArray) (w : World) (h : OpsAt w a n kf vf df) (hn : n ≤ 1048576) :
    Calls Try.prog 10 #[.slice a n cap, .string s] w fun e w' => e = .returned (.tuple #[.string ((left kf vf df n s.data.toList).getD ⟨#[]⟩), .bool (left kf vf df n s.data.toList).isSome]) ∧ w' = w := by
  have HO : Hid (OpsAt w a n kf vf df) := h
  clear h
  go_enter Try.func10, Try.ntmps10
  go_wp2
  go_loop [6] (fun v => ∃ j : Nat, j ≤ n ∧ v = .int .i64 ((j : Int) - 1) ∧ Hid (left kf vf df n s.data.toList = left kf vf df j s.data.toList)) (fun v => (intOf v + 1).toNat)
  case atStart => exact ⟨n, Nat.le_refl _, rfl, rfl⟩
  case round =>
    obtain ⟨j, hj, rfl, hl⟩ := hrel
    cases j with
    | zero =>
      go_wp2
      go_ret2
      refine ⟨?_, rfl⟩
      rw [hl.out]; rfl
    | succ i =>
      obtain ⟨b, off, rfl, c0, c1, c2⟩ := HO.out i (by omega)
      have HST : Hid (left kf vf df (i + 1) s.data.toList = if (kf i).data.toList = s.data.toList then (if df i then none else some (vf i)) else left kf vf df i s.data.toList) := rfl
      by_cases e : (kf i).data.toList = s.data.toList
      · have hb : ((kf i).toList == s.toList) = true := by rw [ByteArray.toList_eq, ByteArray.toList_eq, e]; simp
        cases hd : df i with
        | true =>
          rw [hd] at c2
          have HR : Hid (left kf vf df n s.data.toList = none) := by
            show left kf vf df n s.data.toList = none
            rw [hl.out, HST.out, if_pos e, hd]; rfl
          clear e hl HST hd
          go_wp2
          go_ret2
          refine ⟨?_, rfl⟩
          rw [HR.out]; rfl
        | false =>
          rw [hd] at c2
          have HR : Hid (left kf vf df n s.data.toList = some (vf i)) := by
            show left kf vf df n s.data.toList = some (vf i)
            rw [hl.out, HST.out, if_pos e, hd]; rfl
          clear e hl HST hd
          go_wp2
          go_ret2
          refine ⟨?_, rfl⟩
          rw [HR.out]; rfl
      · have hb : ((kf i).toList == s.toList) = false := by rw [ByteArray.toList_eq, ByteArray.toList_eq]; simpa using e
        have HR : Hid (left kf vf df n s.data.toList = left kf vf df i s.data.toList) := by
          show left kf vf df n s.data.toList = _
          rw [hl.out, HST.out, if_neg e]
        clear e hl HST
        go_wp2
        go_round
        case rel => exact ⟨i, by omega, rfl, HR⟩
        case measure => simp [intOf]

end Go.Proofs.Qxb6603588a

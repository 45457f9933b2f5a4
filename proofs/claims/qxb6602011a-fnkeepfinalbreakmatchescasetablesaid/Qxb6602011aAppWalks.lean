import Derived.Test.Qxb6602011aBuf
import Derived.Test.Qxb6602011aPlainApp
namespace Go.Proofs.Qxb6602011a
open Go.RowKit
open Plain

theorem text_one (w : World) (c : Int) : Text (w.alloc (.cells #[.int .u8 c] 5)) (some ⟨w.heap.size, 0, none⟩) 1 (fun _ => c) := by
  intro k hk
  obtain rfl : k = 0 := by omega
  exact ⟨w.heap.size, 0, rfl, by simp⟩

theorem one_list (c : Int) : (List.range 1).map (fun _ => c) = [c] := rfl

theorem appendSpaces_any (v : Value) (cs : List Int) (n : Nat) (w : World) (hb : Buf w v cs) (hlen : cs.length + n ≤ 1099511627776) :
    Calls Try.prog 46 #[v, .int .i64 n] w fun e w' => ∃ v', e = .returned v' ∧ Buf w' v' (cs ++ List.replicate n 32) ∧ App w v w' v' := by
  have HB : Hid (Buf w v cs) := hb
  clear hb
  go_enter Try.func46, Try.ntmps46
  go_wp2
  go_loopw [0, 6] (fun u i wr => ∃ k : Nat, k ≤ n ∧ i = .int .i64 k ∧ Hid (Buf wr u (cs ++ List.replicate k 32)) ∧ Hid (App w v wr u)) (fun _ i _ => n - (intOf i).toNat)
  case atStart => exact ⟨0, Nat.zero_le _, rfl, by simpa using HB, App.refl _ _⟩
  case round =>
    obtain ⟨k, hk, rfl, hbk, hak⟩ := hrel
    by_cases hlt : k < n
    · go_wp2_with (at_builtin; refine wpList_append_buf rfl (.tmp 8) (.tmp 9) rfl _ (cs ++ List.replicate k 32) rfl (hbk.out.alloc _) (some ⟨_, 0, none⟩) 1 1 (fun _ => 32) rfl (by exact text_one _ _) (fun h => by cases h) (by simp; omega) ?_)
      intro v' w1 hb1 ha1
      have HB1 : Hid (Buf w1 v' (cs ++ List.replicate (k + 1) 32)) := by
        show Buf w1 v' _
        simpa [List.replicate_succ'] using hb1
      have HA1 : Hid (App w v w1 v') := (hak.out.trans (App.alloc _ _ _)).trans ha1
      clear hb1 ha1 hbk hak
      go_wp2
      go_roundw
      case rel => exact ⟨k + 1, by omega, by go_num, HB1, HA1⟩
      case measure => simp [intOf]; omega
    · obtain rfl : k = n := by omega
      go_wp2
      go_ret
      exact ⟨_, rfl, hbk.out, hak.out⟩


/-- zzB1AppendNormalised: 'out' the call's own, 'region' a text that does not lie in out's block. -/
theorem appendNorm_any (v : Value) (cs : List Int) (ao : Option Addr) (n cap : Nat) (z : Nat → Int) (w : World) (hb : Buf w v cs) (ht : Text w ao n z) (hs : ∀ b off, ao = some ⟨b, off, none⟩ → some b ≠ v.ownBlock) (hlen : cs.length ≤ 1048576) (hn : n ≤ 1048576) :
    Calls Try.prog 17 #[v, .slice ao n cap] w fun e w' => ∃ v', e = .returned v' ∧ Buf w' v' (cs ++ norm z n 0) ∧ App w v w' v' := by
  have HB : Hid (Buf w v cs) := hb
  have HT : Hid (Text w ao n z) := ht
  have HS : Hid (∀ b off, ao = some ⟨b, off, none⟩ → some b ≠ v.ownBlock) := hs
  have htl : (norm z n 0).length ≤ n := norm_length z n n 0 rfl
  clear hb ht hs
  go_enter Try.func17, Try.ntmps17
  go_wp2
  go_loopw [0, 5] (fun u i wr => ∃ (k : Nat) (ds : List Int), k ≤ n ∧ i = .int .i64 k ∧ Hid (Buf wr u (cs ++ ds)) ∧ Hid (App w v wr u) ∧ Hid (norm z n 0 = ds ++ norm z n k)) (fun _ i _ => n - (intOf i).toNat)
  case atStart => exact ⟨0, [], Nat.zero_le _, rfl, by simpa using HB, App.refl _ _, rfl⟩
  case round =>
    obtain ⟨k, ds, hk, rfl, hbk, hak, hnk⟩ := hrel
    have hdl : ds.length ≤ n := by have := congrArg List.length hnk.out; simp at this; omega
    by_cases hlt : k < n
    · have htw : Text wr ao n z := HT.out.grown hak.out.grown HS.out
      obtain ⟨b, off, rfl, hc⟩ := htw k hlt
      cases h13 : (z k == 13) with
      | false =>
        have hz : z k ≠ 13 := by simpa using h13
        have HN : Hid (norm z n 0 = (ds ++ [z k]) ++ norm z n (k + 1)) := by
          show norm z n 0 = _
          rw [hnk.out, norm_other hlt hz]; simp
        clear hnk hz
        go_wp2_with (at_builtin; refine wpList_append_buf rfl (.tmp 32) (.tmp 34) rfl _ (cs ++ ds) rfl (hbk.out.alloc _) (some ⟨_, 0, none⟩) 1 1 (fun _ => z k) rfl (by exact text_one _ _) (fun h => by cases h) (by simp; omega) ?_)
        intro v' w1 hb1 ha1
        have HB1 : Hid (Buf w1 v' (cs ++ (ds ++ [z k]))) := by
          show Buf w1 v' _
          simpa using hb1
        have HA1 : Hid (App w v w1 v') := (hak.out.trans (App.alloc _ _ _)).trans ha1
        clear hb1 ha1 hbk hak
        go_wp2
        go_roundw
        case rel => exact ⟨k + 1, _, by omega, by go_num, HB1, HA1, HN⟩
        case measure => simp [intOf]; omega
      | true =>
        have hz : z k = 13 := by simpa using h13
        by_cases hlt1 : k + 1 < n
        · obtain ⟨b', off', he, hc1⟩ := htw (k + 1) hlt1
          cases he
          cases h10 : (z (k + 1) == 10) with
          | true =>
            have hz1 : z (k + 1) = 10 := by simpa using h10
            have HN : Hid (norm z n 0 = (ds ++ [10]) ++ norm z n (k + 2)) := by
              show norm z n 0 = _
              rw [hnk.out, norm_crlf hlt hz hlt1 hz1]; simp
            clear hnk hz hz1
            go_wp2_with (at_builtin; refine wpList_append_buf rfl (.tmp 32) (.tmp 34) rfl _ (cs ++ ds) rfl (hbk.out.alloc _) (some ⟨_, 0, none⟩) 1 1 (fun _ => 10) rfl (by exact text_one _ _) (fun h => by cases h) (by simp; omega) ?_)
            intro v' w1 hb1 ha1
            have HB1 : Hid (Buf w1 v' (cs ++ (ds ++ [10]))) := by
              show Buf w1 v' _
              simpa using hb1
            have HA1 : Hid (App w v w1 v') := (hak.out.trans (App.alloc _ _ _)).trans ha1
            clear hb1 ha1 hbk hak
            go_wp2
            go_roundw
            case rel => exact ⟨k + 2, _, by omega, by go_num, HB1, HA1, HN⟩
            case measure => simp [intOf]; omega
          | false =>
            have hz1 : z (k + 1) ≠ 10 := by simpa using h10
            have HN : Hid (norm z n 0 = (ds ++ [10]) ++ norm z n (k + 1)) := by
              show norm z n 0 = _
              rw [hnk.out, norm_cr hlt hz (fun h => hz1 h.2)]; simp
            clear hnk hz hz1
            go_wp2_with (at_builtin; refine wpList_append_buf rfl (.tmp 32) (.tmp 34) rfl _ (cs ++ ds) rfl (hbk.out.alloc _) (some ⟨_, 0, none⟩) 1 1 (fun _ => 10) rfl (by exact text_one _ _) (fun h => by cases h) (by simp; omega) ?_)
            intro v' w1 hb1 ha1
            have HB1 : Hid (Buf w1 v' (cs ++ (ds ++ [10]))) := by
              show Buf w1 v' _
              simpa using hb1
            have HA1 : Hid (App w v w1 v') := (hak.out.trans (App.alloc _ _ _)).trans ha1
            clear hb1 ha1 hbk hak
            go_wp2
            go_roundw
            case rel => exact ⟨k + 1, _, by omega, by go_num, HB1, HA1, HN⟩
            case measure => simp [intOf]; omega
        · have HN : Hid (norm z n 0 = (ds ++ [10]) ++ norm z n (k + 1)) := by
            show norm z n 0 = _
            rw [hnk.out, norm_cr hlt hz (fun h => hlt1 h.1)]; simp
          clear hnk hz
          go_wp2_with (at_builtin; refine wpList_append_buf rfl (.tmp 32) (.tmp 34) rfl _ (cs ++ ds) rfl (hbk.out.alloc _) (some ⟨_, 0, none⟩) 1 1 (fun _ => 10) rfl (by exact text_one _ _) (fun h => by cases h) (by simp; omega) ?_)
          intro v' w1 hb1 ha1
          have HB1 : Hid (Buf w1 v' (cs ++ (ds ++ [10]))) := by
            show Buf w1 v' _
            simpa using hb1
          have HA1 : Hid (App w v w1 v') := (hak.out.trans (App.alloc _ _ _)).trans ha1
          clear hb1 ha1 hbk hak
          go_wp2
          go_roundw
          case rel => exact ⟨k + 1, _, by omega, by go_num, HB1, HA1, HN⟩
          case measure => simp [intOf]; omega
    · obtain rfl : k = n := by omega
      go_wp2
      go_ret
      exact ⟨_, rfl, by rw [hnk.out, norm_end (Nat.le_refl _), List.append_nil]; exact hbk.out, hak.out⟩


theorem skipSpaces_any (a : Option Addr) (n cap : Nat) (z : Nat → Int) (i : Nat) (w : World) (ht : Text w a n z) (hn : n ≤ 1048576) (hi : i ≤ n) :
    Calls Try.prog 45 #[.slice a n cap, .int .i64 i] w fun e w' => e = .returned (.int .i64 (spaces z n i)) ∧ w' = w := by
  have HT : Hid (Text w a n z) := ht
  clear ht
  go_enter Try.func45, Try.ntmps45
  go_wp2
  go_loop [1] (fun j => ∃ k : Nat, k ≤ n ∧ i ≤ k ∧ j = .int .i64 k ∧ Hid (spaces z n i = spaces z n k)) (fun j => n - (intOf j).toNat)
  case atStart => exact ⟨i, hi, Nat.le_refl _, rfl, rfl⟩
  case round =>
    obtain ⟨k, hk, hik, rfl, hsk⟩ := hrel
    by_cases hlt : k < n
    · obtain ⟨b, off, rfl, hc⟩ := HT.out k hlt
      cases hb : (z k == 32) with
      | true =>
        have hs : spaces z n k = spaces z n (k + 1) := scan_go hlt hb
        have HS : Hid (spaces z n i = spaces z n (k + 1)) := hsk.out.trans hs
        clear hs hsk
        go_wp2
        go_round
        case rel => exact ⟨k + 1, by omega, by omega, by go_num, HS⟩
        case measure => simp [intOf]; omega
      | false =>
        have hs : spaces z n k = k := scan_off hb
        have HS : Hid (spaces z n i = k) := hsk.out.trans hs
        clear hs hsk
        go_wp2
        go_ret
        exact ⟨ret_int (by rw [HS.out]), rfl⟩
    · have hs : spaces z n k = k := scan_end (by omega)
      have HS : Hid (spaces z n i = k) := hsk.out.trans hs
      clear hs hsk
      go_wp2
      go_ret
      exact ⟨ret_int (by rw [HS.out]), rfl⟩

end Go.Proofs.Qxb6602011a

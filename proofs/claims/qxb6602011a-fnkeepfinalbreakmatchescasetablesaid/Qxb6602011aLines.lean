import Derived.Test.Qxb6602011aAppWalks
namespace Go.Proofs.Qxb6602011a
open Go.RowKit
open Plain

def lenOfV : Value → Nat
  | .slice _ n _ => n
  | _ => 0

theorem lineEnd_0 (a : Option Addr) (n cap : Nat) (z : Nat → Int) (w : World) (ht : Text w a n z) (hn : n ≤ 1048576) :
    Calls Try.prog 42 #[.slice a n cap, .int .i64 0] w fun e w' => e = .returned (.int .i64 (lineEnd z n 0)) ∧ w' = w :=
  lineEnd_any a n cap z 0 w ht hn (Nat.zero_le _)
theorem spaces_0 (a : Option Addr) (n cap : Nat) (z : Nat → Int) (w : World) (ht : Text w a n z) (hn : n ≤ 1048576) :
    Calls Try.prog 45 #[.slice a n cap, .int .i64 0] w fun e w' => e = .returned (.int .i64 (spaces z n 0)) ∧ w' = w :=
  skipSpaces_any a n cap z 0 w ht hn (Nat.zero_le _)

/-- The address behind s[q:], s of capacity c. -/
def cutA (a : Option Addr) (q c : Nat) : Option Addr := if c = q then a else a.map (·.add q)

theorem size_5 : ∀ w, (sizeOf (Try.prog.elem 22)).run Try.prog w = .ok 1 w := fun _ => by kernel_rfl
theorem elem22 : Try.prog.underlying 22 = some (.slice (Try.prog.elem 22)) := by kernel_rfl

theorem run_to (a : Option Addr) (n c h : Nat) (hc : h ≤ c) (w : World) : (Instr.slice 22 (.slice a n c) none (some (.int .i64 h)) none).run Try.prog w = .ok (.slice a h c) w := by
  rw [run_slice_h w 22 a n c elem22 .i64 h (by omega) (by omega), size_5]
  unfold sliced
  simp only [Result.andThen, Int.toNat_natCast, Nat.sub_zero, Nat.zero_mul]
  cases a with
  | none => simp
  | some x => simp [Addr.add]
theorem run_from (a : Option Addr) (n c l : Nat) (hl : l ≤ n) (w : World) : (Instr.slice 22 (.slice a n c) (some (.int .i64 l)) none none).run Try.prog w = .ok (.slice (cutA a l c) (n - l) (c - l)) w := by
  rw [run_slice_l w 22 a n c elem22 .i64 l (by omega) (by omega), size_5]
  simp [sliced, Result.andThen, cutA]

theorem seg_zero (z : Nat → Int) (e : Nat) : (List.range e).map z = seg z 0 e := by
  unfold seg
  rw [Nat.sub_zero]
  apply List.map_congr_left
  intro k _
  show z k = z (0 + k)
  rw [Nat.zero_add]
theorem seg_from (z : Nat → Int) (i j : Nat) : (List.range (j - i)).map (from' z i) = seg z i j := rfl

theorem Text.upto {w : World} {a : Option Addr} {n m : Nat} {z : Nat → Int} (h : Text w a n z) (hm : m ≤ n) : Text w a m z := fun k hk => h k (by omega)

theorem Text.cut {w : World} {a : Option Addr} {n c q : Nat} {z : Nat → Int} (h : Text w a n z) (hn : n ≤ c) : Text w (cutA a q c) (n - q) (from' z q) := by
  intro k hk
  obtain ⟨b, off, rfl, hc⟩ := h (q + k) (by omega)
  refine ⟨b, off + q, ?_, ?_⟩
  · simp [cutA, show c ≠ q from by omega, Addr.add]
  · rw [Nat.add_assoc]; exact hc

theorem cutA_sep {a : Option Addr} {q c : Nat} {P : Nat → Prop} (h : ∀ x, a = some x → P x.block) : ∀ x, cutA a q c = some x → P x.block := by
  intro x he
  unfold cutA at he
  split at he
  · exact h x he
  · cases a with
    | none => simp at he
    | some y =>
      simp only [Option.map_some, Option.some.injEq] at he
      have hb : x.block = y.block := by
        subst he
        unfold Addr.add
        split <;> rfl
      rw [hb]
      exact h y rfl

theorem cutA_none {a : Option Addr} {n q c : Nat} (h : a = none → n = 0 ∧ c = 0) : cutA a q c = none → n - q = 0 ∧ c - q = 0 := by
  intro he
  unfold cutA at he
  split at he
  · have := h he; omega
  · cases a with
    | none => have := h rfl; omega
    | some x => simp at he

theorem appendLines_any (v : Value) (cs : List Int) (ao : Option Addr) (n cap : Nat) (z : Nat → Int) (floor : Int) (w : World) (hb : Buf w v cs) (ht : Text w ao n z) (hs : ∀ x, ao = some x → some x.block ≠ v.ownBlock) (hno : ao = none → n = 0 ∧ cap = 0) (hcap : n ≤ cap) (hlen : cs.length ≤ 1048576) (hn : n ≤ 1048576) (hf : floor ≤ 0) (hf2 : -9223372036854775808 ≤ floor) :
    Calls Try.prog 35 #[v, .slice ao n cap, .int .i64 0, .int .i64 floor] w fun e w' => ∃ v', e = .returned v' ∧ Buf w' v' (cs ++ lines z n) ∧ App w v w' v' := by
  have HB : Hid (Buf w v cs) := hb
  have HT : Hid (Text w ao n z) := ht
  have HS : Hid (∀ x, ao = some x → some x.block ≠ v.ownBlock) := hs
  have HO : Hid (ao = none → n = 0 ∧ cap = 0) := hno
  clear hb ht hs hno
  go_enter Try.func35, Try.ntmps35
  go_wp2
  go_loopw [0, 1, 9] (fun u r f wr => ∃ (z' : Nat → Int) (n' c' : Nat) (a' : Option Addr) (ds : List Int) (fb : Bool), n' ≤ n ∧ n' ≤ c' ∧ r = .slice a' n' c' ∧ f = .bool fb ∧ Hid (Buf wr u (cs ++ ds)) ∧ Hid (App w v wr u) ∧ Hid (Text w a' n' z') ∧ Hid (∀ x, a' = some x → some x.block ≠ v.ownBlock) ∧ Hid (a' = none → n' = 0 ∧ c' = 0) ∧ Hid (lines z n = ds ++ lines z' n')) (fun _ r _ _ => lenOfV r)
  case atStart => exact ⟨z, n, cap, ao, [], true, Nat.le_refl _, hcap, rfl, rfl, by simpa using HB, App.refl _ _, HT, HS, HO, rfl⟩
  case round =>
    obtain ⟨z', n', c', a', ds, fb, hn', hc', rfl, rfl, hbk, hak, htk, hsk, hok, hlk⟩ := hrel
    have htw : Hid (Text wr a' n' z') := htk.out.grown hak.out.grown (fun b off e => hsk.out ⟨b, off, none⟩ e)
    have hl2 : lineEnd z' n' 0 ≤ n' := lineEnd_le (Nat.zero_le _)
    have hto := run_to a' n' c' (lineEnd z' n' 0) (by omega)
    go_wp2_with fail
    refine (lineEnd_0 a' n' c' z' _ htw.out (by omega)).mono ?_
    rintro e w' ⟨rfl, rfl⟩
    have hno1 : Hid (a' = none → lineEnd z' n' 0 = 0 ∧ c' = 0) := fun h => by have := hok.out h; exact ⟨by omega, this.2⟩
    have hdl : ds.length ≤ n + 1 := by have h1 := congrArg List.length hlk.out; have h2 := lines_length z n; rw [List.length_append] at h1; omega
    cases fb with
    | true =>
      go_wp2_with (at_builtin; refine wpList_append_buf rfl (.tmp 37) (.tmp 38) rfl _ (cs ++ ds) rfl hbk.out a' (lineEnd z' n' 0) c' z' rfl (htw.out.upto hl2) hno1.out (by simp; omega) ?_)
      intro v1 w1 hb1 ha1
      have HB1 : Hid (Buf w1 v1 (cs ++ (ds ++ seg z' 0 (lineEnd z' n' 0)))) := by
        show Buf w1 v1 _
        rw [← seg_zero]; simpa using hb1
      have HA1 : Hid (App w v w1 v1) := hak.out.trans ha1
      clear hb1 ha1 hbk hak htw hto
      go_wp2_with (at_builtin; refine wpList_append_buf rfl (.tmp 40) (.tmp 41) rfl _ (cs ++ (ds ++ seg z' 0 (lineEnd z' n' 0))) rfl (HB1.out.alloc _) (some ⟨_, 0, none⟩) 1 1 (fun _ => 10) rfl (by exact text_one _ _) (fun h => by cases h) (by simp [seg_length]; omega) ?_)
      intro v2 w2 hb2 ha2
      have HB2 : Hid (Buf w2 v2 (cs ++ (ds ++ (seg z' 0 (lineEnd z' n' 0) ++ [10])))) := by
        show Buf w2 v2 _
        simpa using hb2
      have HA2 : Hid (App w v w2 v2) := (HA1.out.trans (App.alloc _ _ _)).trans ha2
      clear hb2 ha2 HB1 HA1
      by_cases he : lineEnd z' n' 0 = n'
      · have hq : ((lineEnd z' n' 0 : Int) == n') = true := by simp [he]
        have HE : Hid (lines z n = ds ++ (seg z' 0 (lineEnd z' n' 0) ++ [10])) := by
          show lines z n = _
          rw [hlk.out, lines_last he]
        clear he hlk
        go_wp2
        go_ret
        exact ⟨_, rfl, by rw [HE.out]; exact HB2.out, HA2.out⟩
      · have hq : ((lineEnd z' n' 0 : Int) == n') = false := by simp; omega
        have hgt := nextLine_gt (z := z') (show lineEnd z' n' 0 < n' by omega)
        have hnn := nextLine_le (z := z') (n := n') (i := lineEnd z' n' 0)
        have HE : Hid (lines z n = (ds ++ (seg z' 0 (lineEnd z' n' 0) ++ [10])) ++ lines (from' z' (nextLine z' n' (lineEnd z' n' 0))) (n' - nextLine z' n' (lineEnd z' n' 0))) := by
          show lines z n = _
          rw [hlk.out, lines_more he]; simp
        have htw2 : Hid (Text w2 a' n' z') := htk.out.grown HA2.out.grown (fun b off e => hsk.out ⟨b, off, none⟩ e)
        have hfr := run_from a' n' c' (nextLine z' n' (lineEnd z' n' 0)) hnn
        clear he hlk
        go_wp2_with (go_at_call 44; refine (nextLine_any a' n' c' z' (lineEnd z' n' 0) _ (by exact htw2.out) (by omega) hl2).mono ?_; rintro e w' ⟨rfl, rfl⟩)
        go_roundw
        case rel => exact ⟨_, _, _, _, _, false, by omega, by omega, rfl, rfl, HB2, HA2, htk.out.cut hc', cutA_sep (P := fun b => some b ≠ v.ownBlock) hsk.out, cutA_none hok.out, HE⟩
        case measure => simp [lenOfV]; omega
    | false =>
      by_cases hpos : 0 < lineEnd z' n' 0
      · have hpos' : (0 : Int) < (lineEnd z' n' 0 : Int) := by omega
        have hs2 : spaces z' (lineEnd z' n' 0) 0 ≤ lineEnd z' n' 0 := scan_le (Nat.zero_le _)
        have HSP : Hid (seg z' 0 (lineEnd z' n' 0) = List.replicate (spaces z' (lineEnd z' n' 0) 0) 32 ++ seg z' (spaces z' (lineEnd z' n' 0) 0) (lineEnd z' n' 0)) := by
          show seg z' 0 (lineEnd z' n' 0) = _
          rw [seg_append _ 0 (spaces z' (lineEnd z' n' 0) 0) (lineEnd z' n' 0) rfl (Nat.zero_le _) hs2, seg_spaces _ 0 (spaces z' (lineEnd z' n' 0) 0) rfl (fun k a b => scan_in a b), Nat.sub_zero]
        have hfr0 := run_from a' (lineEnd z' n' 0) c' (spaces z' (lineEnd z' n' 0) 0) hs2
        go_wp2_with (go_at_call 45; refine (spaces_0 a' (lineEnd z' n' 0) c' z' _ (by exact htw.out.upto hl2) (by omega)).mono ?_; rintro e w' ⟨rfl, rfl⟩)
        refine (appendSpaces_any _ (cs ++ ds) _ _ hbk.out (by simp; omega)).mono ?_
        rintro _ w0 ⟨v0, rfl, hb0, ha0⟩
        have HB0 : Hid (Buf w0 v0 (cs ++ (ds ++ List.replicate (spaces z' (lineEnd z' n' 0) 0) 32))) := by
          show Buf w0 v0 _
          rw [← List.append_assoc]; exact hb0
        have HA0 : Hid (App w v w0 v0) := hak.out.trans ha0
        have htw0 : Hid (Text w0 a' n' z') := htk.out.grown HA0.out.grown (fun b off e => hsk.out ⟨b, off, none⟩ e)
        clear hb0 ha0 hbk hak htw hto
        go_wp2_with (at_builtin; refine wpList_append_buf rfl (.tmp 37) (.tmp 38) rfl _ (cs ++ (ds ++ List.replicate (spaces z' (lineEnd z' n' 0) 0) 32)) rfl HB0.out (cutA a' (spaces z' (lineEnd z' n' 0) 0) c') (lineEnd z' n' 0 - spaces z' (lineEnd z' n' 0) 0) (c' - spaces z' (lineEnd z' n' 0) 0) (from' z' (spaces z' (lineEnd z' n' 0) 0)) rfl ((htw0.out.upto hl2).cut (by omega)) (cutA_none hno1.out) (by simp; omega) ?_)
        intro v1 w1 hb1 ha1
        have HB1 : Hid (Buf w1 v1 (cs ++ (ds ++ seg z' 0 (lineEnd z' n' 0)))) := by
          show Buf w1 v1 _
          rw [HSP.out, ← seg_from]; simpa using hb1
        have HA1 : Hid (App w v w1 v1) := HA0.out.trans ha1
        clear hb1 ha1 HB0 HA0 htw0 hfr0 HSP
        go_wp2_with (at_builtin; refine wpList_append_buf rfl (.tmp 40) (.tmp 41) rfl _ (cs ++ (ds ++ seg z' 0 (lineEnd z' n' 0))) rfl (HB1.out.alloc _) (some ⟨_, 0, none⟩) 1 1 (fun _ => 10) rfl (by exact text_one _ _) (fun h => by cases h) (by simp [seg_length]; omega) ?_)
        intro v2 w2 hb2 ha2
        have HB2 : Hid (Buf w2 v2 (cs ++ (ds ++ (seg z' 0 (lineEnd z' n' 0) ++ [10])))) := by
          show Buf w2 v2 _
          simpa using hb2
        have HA2 : Hid (App w v w2 v2) := (HA1.out.trans (App.alloc _ _ _)).trans ha2
        clear hb2 ha2 HB1 HA1
        by_cases he : lineEnd z' n' 0 = n'
        · have hq : ((lineEnd z' n' 0 : Int) == n') = true := by simp [he]
          have HE : Hid (lines z n = ds ++ (seg z' 0 (lineEnd z' n' 0) ++ [10])) := by
            show lines z n = _
            rw [hlk.out, lines_last he]
          clear he hlk
          go_wp2
          go_ret
          exact ⟨_, rfl, by rw [HE.out]; exact HB2.out, HA2.out⟩
        · have hq : ((lineEnd z' n' 0 : Int) == n') = false := by simp; omega
          have hgt := nextLine_gt (z := z') (show lineEnd z' n' 0 < n' by omega)
          have hnn := nextLine_le (z := z') (n := n') (i := lineEnd z' n' 0)
          have HE : Hid (lines z n = (ds ++ (seg z' 0 (lineEnd z' n' 0) ++ [10])) ++ lines (from' z' (nextLine z' n' (lineEnd z' n' 0))) (n' - nextLine z' n' (lineEnd z' n' 0))) := by
            show lines z n = _
            rw [hlk.out, lines_more he]; simp
          have htw2 : Hid (Text w2 a' n' z') := htk.out.grown HA2.out.grown (fun b off e => hsk.out ⟨b, off, none⟩ e)
          have hfr := run_from a' n' c' (nextLine z' n' (lineEnd z' n' 0)) hnn
          clear he hlk
          go_wp2_with (go_at_call 44; refine (nextLine_any a' n' c' z' (lineEnd z' n' 0) _ (by exact htw2.out) (by omega) hl2).mono ?_; rintro e w' ⟨rfl, rfl⟩)
          go_roundw
          case rel => exact ⟨_, _, _, _, _, false, by omega, by omega, rfl, rfl, HB2, HA2, htk.out.cut hc', cutA_sep (P := fun b => some b ≠ v.ownBlock) hsk.out, cutA_none hok.out, HE⟩
          case measure => simp [lenOfV]; omega
      · have hpos' : ¬ (0 : Int) < (lineEnd z' n' 0 : Int) := by omega
        go_wp2_with (at_builtin; refine wpList_append_buf rfl (.tmp 37) (.tmp 38) rfl _ (cs ++ ds) rfl hbk.out a' (lineEnd z' n' 0) c' z' rfl (htw.out.upto hl2) hno1.out (by simp; omega) ?_)
        intro v1 w1 hb1 ha1
        have HB1 : Hid (Buf w1 v1 (cs ++ (ds ++ seg z' 0 (lineEnd z' n' 0)))) := by
          show Buf w1 v1 _
          rw [← seg_zero]; simpa using hb1
        have HA1 : Hid (App w v w1 v1) := hak.out.trans ha1
        clear hb1 ha1 hbk hak htw hto
        go_wp2_with (at_builtin; refine wpList_append_buf rfl (.tmp 40) (.tmp 41) rfl _ (cs ++ (ds ++ seg z' 0 (lineEnd z' n' 0))) rfl (HB1.out.alloc _) (some ⟨_, 0, none⟩) 1 1 (fun _ => 10) rfl (by exact text_one _ _) (fun h => by cases h) (by simp [seg_length]; omega) ?_)
        intro v2 w2 hb2 ha2
        have HB2 : Hid (Buf w2 v2 (cs ++ (ds ++ (seg z' 0 (lineEnd z' n' 0) ++ [10])))) := by
          show Buf w2 v2 _
          simpa using hb2
        have HA2 : Hid (App w v w2 v2) := (HA1.out.trans (App.alloc _ _ _)).trans ha2
        clear hb2 ha2 HB1 HA1
        by_cases he : lineEnd z' n' 0 = n'
        · have hq : ((lineEnd z' n' 0 : Int) == n') = true := by simp [he]
          have HE : Hid (lines z n = ds ++ (seg z' 0 (lineEnd z' n' 0) ++ [10])) := by
            show lines z n = _
            rw [hlk.out, lines_last he]
          clear he hlk
          go_wp2
          go_ret
          exact ⟨_, rfl, by rw [HE.out]; exact HB2.out, HA2.out⟩
        · have hq : ((lineEnd z' n' 0 : Int) == n') = false := by simp; omega
          have hgt := nextLine_gt (z := z') (show lineEnd z' n' 0 < n' by omega)
          have hnn := nextLine_le (z := z') (n := n') (i := lineEnd z' n' 0)
          have HE : Hid (lines z n = (ds ++ (seg z' 0 (lineEnd z' n' 0) ++ [10])) ++ lines (from' z' (nextLine z' n' (lineEnd z' n' 0))) (n' - nextLine z' n' (lineEnd z' n' 0))) := by
            show lines z n = _
            rw [hlk.out, lines_more he]; simp
          have htw2 : Hid (Text w2 a' n' z') := htk.out.grown HA2.out.grown (fun b off e => hsk.out ⟨b, off, none⟩ e)
          have hfr := run_from a' n' c' (nextLine z' n' (lineEnd z' n' 0)) hnn
          clear he hlk
          go_wp2_with (go_at_call 44; refine (nextLine_any a' n' c' z' (lineEnd z' n' 0) _ (by exact htw2.out) (by omega) hl2).mono ?_; rintro e w' ⟨rfl, rfl⟩)
          go_roundw
          case rel => exact ⟨_, _, _, _, _, false, by omega, by omega, rfl, rfl, HB2, HA2, htk.out.cut hc', cutA_sep (P := fun b => some b ≠ v.ownBlock) hsk.out, cutA_none hok.out, HE⟩
          case measure => simp [lenOfV]; omega

end Go.Proofs.Qxb6602011a

import Derived.Test.Qxb6602011aScan
import Derived.WalkLawsBesides
import Derived.WalkSpells
import Derived.Laws.CopyOwn
namespace Go.Proofs.Qxb6602011a
open Go.RowKit
open Plain

theorem info5 : (Try.prog.info? 5).map (fun i => (i.zero, i.size, i.bytes)) = some (some (.int .u8 0), 1, 1) := by kernel_rfl
theorem size5 : (Try.prog.info? 5).map (·.size) = some 1 := by kernel_rfl

/-- The cells of n bytes. -/
def row (z : Nat → Int) (n : Nat) : List Value := (List.range n).map fun k => Value.int .u8 (z k)
theorem row_length (z : Nat → Int) (n : Nat) : (row z n).length = n := by simp [row]
theorem row_get {z : Nat → Int} {n j : Nat} {v : Value} (h : (row z n)[j]? = some v) : j < n ∧ v = .int .u8 (z j) := by
  have hj : j < n := by
    have := (List.getElem?_eq_some_iff.1 h).1
    rw [row_length] at this; exact this
  refine ⟨hj, ?_⟩
  simp [row, hj] at h
  exact h.symm
theorem row_at {z : Nat → Int} {n j : Nat} (h : j < n) : (row z n)[j]? = some (.int .u8 (z j)) := by simp [row, h]
theorem row_one (z : Nat → Int) (n : Nat) : ∀ v ∈ row z n, v.oneCell' = true := by
  intro v hv
  simp only [row, List.mem_map] at hv
  obtain ⟨k, _, rfl⟩ := hv
  rfl

theorem text_of_owns {w : World} {base : Nat} {a : Option Addr} {n c : Nat} {z : Nat → Int} (h : w.ownsRow base 5 1 (.slice a n c) n (row z n)) : Text w a n z := by
  intro k hk
  obtain ⟨_, h2⟩ := h
  rcases h2 with ⟨_, h0⟩ | ⟨g, cap, cur, he, hb, hg, hc1, hc2, hc3, hc4⟩
  · omega
  · simp only [Value.slice.injEq] at he
    obtain ⟨rfl, _, rfl⟩ := he
    refine ⟨g, 0, rfl, ?_⟩
    have h3 : (cur.toList.take (n * 1))[k]? = some (.int .u8 (z k)) := by rw [hc4]; exact row_at hk
    rw [List.getElem?_take_of_lt (by omega)] at h3
    simp only [Array.getElem?_toList] at h3
    simp [World.cell?, hg, h3]

theorem clone_nil (w : World) : Calls Try.prog 11 #[.slice none 0 0] w fun e w' => e = .returned (.slice none 0 0) ∧ w' = w := by
  have q22 := fun w => Lib.run_eql_slice_nil (P := Try.prog) w 22 5 none 0 0 0 0 Try.underlying22
  go_enter Try.func11, Try.ntmps11
  go_wp2
  go_ret
  exact ⟨rfl, rfl⟩


theorem add_plain (b off j : Nat) : (⟨b, off, none⟩ : Addr).add j = ⟨b, off + j, none⟩ := by simp [Addr.add]

theorem made_block {w : World} {base : Nat} {p : Addr} {n : Nat} {xs : List Value} (h : w.ownsRow base 5 1 (.slice (some p) n n) n xs) : ∃ cur : List Value, w.heap[p.block]? = some (.cells cur.toArray 5 (0, 0)) ∧ cur.length = n ∧ base ≤ p.block := by
  obtain ⟨h1, h2⟩ := h
  rcases h2 with ⟨he, _⟩ | ⟨g, cap, cur, he, hb, hg, hc1, hc2, hc3, hc4⟩
  · simp at he
  · simp only [Value.slice.injEq, Option.some.injEq] at he
    obtain ⟨rfl, _, rfl⟩ := he
    exact ⟨cur.toList, by simpa using hg, by simp [hc3], hb⟩

theorem owns_of_block {w : World} {base g n : Nat} {xs cur : List Value} (hg : w.heap[g]? = some (.cells cur.toArray 5 (0, 0))) (hb : base ≤ g) (hx : cur = xs) (hl : xs.length = n) (hm : n ≤ maxLen) : w.ownsRow base 5 1 (.slice (some ⟨g, 0, none⟩) n n) n xs := by
  subst hx
  exact ⟨by omega, .inr ⟨g, n, cur.toArray, rfl, hb, hg, Nat.le_refl _, hm, by simp [hl], by simp [List.take_of_length_le, hl]⟩⟩

theorem clone_some (x : Addr) (n cap : Nat) (z : Nat → Int) (w : World) (ht : Text w (some x) n z) (hn : n ≤ 1048576) :
    Calls Try.prog 11 #[.slice (some x) n cap] w fun e w' => e = .returned (.slice (some ⟨w.heap.size, 0, none⟩) n n) ∧ w'.ownsRow w.heap.size 5 1 (.slice (some ⟨w.heap.size, 0, none⟩) n n) n (row z n) ∧ Below w.heap.size w w' := by
  have q22 := fun w => Lib.run_eql_slice_nil (P := Try.prog) w 22 5 (some x) n cap 0 0 Try.underlying22
  have HT : Hid (Text w (some x) n z) := ht
  clear ht
  obtain ⟨i0, hi, hz0, hz1, hz2⟩ := info_parts info5
  go_enter Try.func11, Try.ntmps11
  go_wp2_with (at_make; refine wpList_make_full _ rfl (.tmp 7) (.tmp 7) 22 rfl w.heap.size 5 i0 (.int .u8 0) 1 Try.underlying22 hi hz0 hz1 .i64 .i64 n n n rfl rfl rfl rfl (by rw [hz2]; omega) (by unfold maxLen; omega) (Nat.le_refl _) ?_)
  intro w1 hown hgrow
  have hbel : Below w.heap.size w w1 := (Below.refl _ _).grown hgrow (Nat.le_refl _) (fun k h => by cases h)
  obtain ⟨cur, hg, hcl, _⟩ := made_block hown
  have hpos : 0 < (row z n).length → some (⟨w.heap.size, 0, none⟩ : Addr) = some ⟨w.heap.size, 0, none⟩ ∧ ∃ ad, some x = some ad ∧ ∀ j v, (row z n)[j]? = some v → w1.cell? (ad.add j) = some v := by
    intro _
    refine ⟨rfl, x, rfl, fun j v hv => ?_⟩
    obtain ⟨hj, rfl⟩ := row_get hv
    obtain ⟨b, off, he, hc⟩ := HT.out j hj
    simp only [Option.some.injEq] at he
    subst he
    rw [add_plain, hbel.cell (World.block_lt_of_cell? _ _ hc)]
    exact hc
  have hfit : 0 + (row z n).length ≤ cur.length := by rw [row_length]; omega
  have hlen : (row z n).length = Nat.min n n := by rw [row_length]; exact (Nat.min_self n).symm
  clear hown hgrow
  go_wp2_with (refine wpList_copy_splice rfl (.tmp 9) (.tmp 10) 22 22 rfl 5 Try.underlying22 size5 (some ⟨w.heap.size, 0, none⟩) (some x) n n n cap rfl rfl w.heap.size 0 cur 5 hg (row z n) hlen hpos hfit (row_one z n) w.heap.size w hbel (Nat.le_refl _) ?_)
  intro w2 hg2 hbel2
  go_wp2
  go_ret
  refine ⟨rfl, owns_of_block hg2.out (Nat.le_refl _) ?_ (row_length z n) (by unfold maxLen; omega), hbel2⟩
  unfold splice
  rw [row_length]
  simp [hcl]


/-- zzB1Clone, whatever comes in: nil stays nil; else a row of the call's own with the same bytes. -/
theorem clone_any (a : Option Addr) (n cap : Nat) (z : Nat → Int) (w : World) (ht : Text w a n z) (hn : n ≤ 1048576) (ha : a = none → n = 0 ∧ cap = 0) :
    Calls Try.prog 11 #[.slice a n cap] w fun e w' => ∃ a', e = .returned (.slice a' n n) ∧ w'.ownsRow w.heap.size 5 1 (.slice a' n n) n (row z n) ∧ Below w.heap.size w w' := by
  cases a with
  | none =>
    obtain ⟨rfl, rfl⟩ := ha rfl
    refine (clone_nil w).mono ?_
    rintro e w' ⟨rfl, rfl⟩
    exact ⟨none, rfl, World.ownsRow_nil _ _ _ _, Below.refl _ _⟩
  | some x =>
    refine (clone_some x n cap z w ht hn).mono ?_
    rintro e w' ⟨rfl, h1, h2⟩
    exact ⟨_, rfl, h1, h2⟩

theorem Text.below {w w' : World} {a : Option Addr} {n : Nat} {z : Nat → Int} (h : Text w a n z) (hb : Below w.heap.size w w') : Text w' a n z := by
  intro k hk
  obtain ⟨b, off, rfl, hc⟩ := h k hk
  exact ⟨b, off, rfl, (hb.cell (World.block_lt_of_cell? _ _ hc)).trans hc⟩

end Go.Proofs.Qxb6602011a

import Derived.Test.Qxb6603588aOps
namespace Go.Proofs.Qxb6603588a
open Go.RowKit Go.Maps

theorem info50 : (Try.prog.info? 50).map (fun i => (i.zero, i.size, i.bytes)) = some (some (.agg #[.string ⟨#[]⟩, .string ⟨#[]⟩, .bool false]), 3, 40) := by kernel_rfl

theorem OpsAt.below {w w' : World} {a : Option Addr} {n : Nat} {kf vf : Nat → ByteArray} {df : Nat → Bool} (h : OpsAt w a n kf vf df) (hb : Below w.heap.size w w') : OpsAt w' a n kf vf df := by
  intro i hi
  obtain ⟨b, off, rfl, c0, c1, c2⟩ := h i hi
  have hl := World.block_lt_of_cell? _ _ c0
  exact ⟨b, off, rfl, (hb.cell (p := ⟨b, off + i * 3, none⟩) hl).trans c0, (hb.cell (p := ⟨b, off + i * 3 + 1, none⟩) hl).trans c1, (hb.cell (p := ⟨b, off + i * 3 + 2, none⟩) hl).trans c2⟩

theorem made_block {w : World} {base : Nat} {p : Addr} {n : Nat} {xs : List Value} (h : w.ownsRow base 50 3 (.slice (some p) n n) n xs) : ∃ cur : List Value, w.heap[p.block]? = some (.cells cur.toArray 50 (0, 0)) ∧ cur.length = n * 3 := by
  obtain ⟨h1, h2⟩ := h
  rcases h2 with ⟨he, _⟩ | ⟨g, cap, cur, he, hb, hg, hc1, hc2, hc3, hc4⟩
  · simp at he
  · simp only [Value.slice.injEq, Option.some.injEq] at he
    obtain ⟨rfl, _, rfl⟩ := he
    exact ⟨cur.toList, by simpa using hg, by simp [hc3]⟩

theorem copy_nil (w : World) : Calls Try.prog 7 #[.slice none 0 0] w fun e w' => e = .returned (.slice none 0 0) ∧ w' = w := by
  have q22 := fun w => Lib.run_eql_slice_nil (P := Try.prog) w 22 50 none 0 0 0 0 Try.underlying22
  go_enter Try.func7, Try.ntmps7
  go_wp2
  go_ret
  exact ⟨rfl, rfl⟩

theorem copy_step {wr : World} {g n i : Nat} {cur : List Value} {kf vf : Nat → ByteArray} {df : Nat → Bool} (hl : cur.length = n * 3) (hblk : wr.heap[g]? = some (.cells cur.toArray 50 (0, 0))) (hi : i < n)
    (hdone : ∀ j, j < i → cur[j * 3]? = some (.string (kf j)) ∧ cur[j * 3 + 1]? = some (.string (vf j)) ∧ cur[j * 3 + 2]? = some (.bool (df j))) :
    ∃ cur' : List Value, cur'.length = n * 3 ∧ (((wr.setCell ⟨g, i * 3, none⟩ (.string (kf i))).setCell ⟨g, i * 3 + 1, none⟩ (.string (vf i))).setCell ⟨g, i * 3 + 2, none⟩ (.bool (df i))).heap[g]? = some (.cells cur'.toArray 50 (0, 0)) ∧
      ∀ j, j < i + 1 → cur'[j * 3]? = some (.string (kf j)) ∧ cur'[j * 3 + 1]? = some (.string (vf j)) ∧ cur'[j * 3 + 2]? = some (.bool (df j)) := by
  refine ⟨((cur.set (i * 3) (.string (kf i))).set (i * 3 + 1) (.string (vf i))).set (i * 3 + 2) (.bool (df i)), by simp [hl], ?_, ?_⟩
  · have h1 := heap_setCell_same wr g (i * 3) cur.toArray 50 (.string (kf i)) hblk
    have h2 := heap_setCell_same _ g (i * 3 + 1) _ 50 (.string (vf i)) h1
    have h3 := heap_setCell_same _ g (i * 3 + 2) _ 50 (.bool (df i)) h2
    rw [h3]
    simp
  · intro j hj
    by_cases e : j = i
    · subst e
      refine ⟨?_, ?_, ?_⟩
      · rw [List.getElem?_set_ne (by omega), List.getElem?_set_ne (by omega), List.getElem?_set_self (by omega)]
      · rw [List.getElem?_set_ne (by omega), List.getElem?_set_self (by simp; omega)]
      · rw [List.getElem?_set_self (by simp; omega)]
    · obtain ⟨a1, a2, a3⟩ := hdone j (by omega)
      refine ⟨?_, ?_, ?_⟩
      · rw [List.getElem?_set_ne (by omega), List.getElem?_set_ne (by omega), List.getElem?_set_ne (by omega)]; exact a1
      · rw [List.getElem?_set_ne (by omega), List.getElem?_set_ne (by omega), List.getElem?_set_ne (by omega)]; exact a2
      · rw [List.getElem?_set_ne (by omega), List.getElem?_set_ne (by omega), List.getElem?_set_ne (by omega)]; exact a3

set_option maxHeartbeats 400000 in
theorem copy_some (x : Addr) (n cap : Nat) (kf vf : Nat → ByteArray) (df : Nat → Bool) (w : World) (h : OpsAt w (some x) n kf vf df) (hn : n ≤ 1048576) :
    Calls Try.prog 7 #[.slice (some x) n cap] w fun e w' => ∃ a', e = .returned (.slice a' n n) ∧ OpsAt w' a' n kf vf df ∧ Below w.heap.size w w' ∧ ∀ x, a' = some x → x.block < w'.heap.size := by
  have q22 := fun w => Lib.run_eql_slice_nil (P := Try.prog) w 22 50 (some x) n cap 0 0 Try.underlying22
  have HO : Hid (OpsAt w (some x) n kf vf df) := h
  clear h
  obtain ⟨i0, hi, hz0, hz1, hz2⟩ := info_parts info50
  go_enter Try.func7, Try.ntmps7
  go_wp2_with (at_make; refine wpList_make_full _ rfl (.tmp 8) (.tmp 8) 22 rfl w.heap.size 50 i0 (.agg #[.string ⟨#[]⟩, .string ⟨#[]⟩, .bool false]) 3 Try.underlying22 hi hz0 hz1 .i64 .i64 n n n rfl rfl rfl rfl (by rw [hz2]; omega) (by unfold maxLen; omega) (Nat.le_refl _) ?_)
  intro w1 hown hgrow
  have hbel : Hid (Below w.heap.size w w1) := (Below.refl _ _).grown hgrow (Nat.le_refl _) (fun k h => by cases h)
  obtain ⟨cur0, hg, hcl⟩ := made_block hown
  have HG : Hid (w1.heap[w.heap.size]? = some (.cells cur0.toArray 50 (0, 0))) := hg
  clear hown hgrow hg q22
  go_wp2
  go_loopw [4] (fun v wr => ∃ (i : Nat) (cur : List Value), i ≤ n ∧ v = .int .i64 i ∧ Hid (cur.length = n * 3) ∧ Hid (wr.heap[w.heap.size]? = some (.cells cur.toArray 50 (0, 0))) ∧ Hid (∀ j, j < i → cur[j * 3]? = some (.string (kf j)) ∧ cur[j * 3 + 1]? = some (.string (vf j)) ∧ cur[j * 3 + 2]? = some (.bool (df j))) ∧ Hid (Below w.heap.size w wr)) (fun v _ => n - (intOf v).toNat)
  case atStart => exact ⟨0, cur0, Nat.zero_le _, rfl, hcl, HG, fun j hj => by omega, hbel⟩
  case round =>
    obtain ⟨i, cur, hin, rfl, hl, hblk, hdone, hbe⟩ := hrel
    by_cases hlt : i < n
    · obtain ⟨b, off, hae, c0, c1, c2⟩ := HO.out i hlt
      cases hae
      have hbl := World.block_lt_of_cell? _ _ c0
      have d0 : wr.cell? ⟨b, off + i * 3, none⟩ = some (.string (kf i)) := (hbe.out.cell (p := ⟨b, off + i * 3, none⟩) hbl).trans c0
      have d1 : wr.cell? ⟨b, off + i * 3 + 1, none⟩ = some (.string (vf i)) := (hbe.out.cell (p := ⟨b, off + i * 3 + 1, none⟩) hbl).trans c1
      have d2 : wr.cell? ⟨b, off + i * 3 + 2, none⟩ = some (.bool (df i)) := (hbe.out.cell (p := ⟨b, off + i * 3 + 2, none⟩) hbl).trans c2
      have hln := hl.out
      have ex : ∀ t, t < 3 → ∃ u, wr.cell? ⟨w.heap.size, i * 3 + t, none⟩ = some u := by
        intro t ht
        rw [cell_of_row wr w.heap.size (i * 3 + t) cur.toArray 50 (0, 0) hblk.out]
        exact ⟨_, by rw [List.getElem?_toArray, List.getElem?_eq_getElem (by omega)]⟩
      obtain ⟨u0, e0⟩ := ex 0 (by omega)
      obtain ⟨u1, e1⟩ := ex 1 (by omega)
      obtain ⟨u2, e2⟩ := ex 2 (by omega)
      have fz : ∀ o, wr.frozen? ⟨w.heap.size, o, none⟩ = false := fun o => frozen_of_row wr w.heap.size o cur.toArray 50 hblk.out
      have f0 := fz (i * 3)
      have f1 := fz (i * 3 + 1)
      have f2 := fz (i * 3 + 2)
      simp only [Nat.add_zero] at e0
      clear c0 c1 c2 ex fz hln
      go_wp2
      go_roundw
      case rel =>
        obtain ⟨cur', k1, k2, k3⟩ := copy_step hl.out hblk.out hlt hdone.out
        exact ⟨i + 1, cur', by omega, by go_num, k1, k2, k3, ((hbe.out.setCell (Nat.le_refl _) _).setCell (Nat.le_refl _) _).setCell (Nat.le_refl _) _⟩
      case measure => simp [intOf]; omega
    · obtain rfl : i = n := by omega
      go_wp2
      go_ret
      refine ⟨_, rfl, fun j hj => ⟨w.heap.size, 0, rfl, ?_⟩, hbe.out, fun x hx => by cases hx; exact (Array.getElem?_eq_some_iff.1 hblk.out).1⟩
      have hd := hdone.out j hj
      simp only [Nat.zero_add]
      refine ⟨?_, ?_, ?_⟩
      · rw [cell_of_row wr w.heap.size (j * 3) cur.toArray 50 (0, 0) hblk.out, List.getElem?_toArray]; exact hd.1
      · rw [cell_of_row wr w.heap.size (j * 3 + 1) cur.toArray 50 (0, 0) hblk.out, List.getElem?_toArray]; exact hd.2.1
      · rw [cell_of_row wr w.heap.size (j * 3 + 2) cur.toArray 50 (0, 0) hblk.out, List.getElem?_toArray]; exact hd.2.2


theorem copy_any (a : Option Addr) (n cap : Nat) (kf vf : Nat → ByteArray) (df : Nat → Bool) (w : World) (h : OpsAt w a n kf vf df) (hn : n ≤ 1048576) (ha : a = none → n = 0 ∧ cap = 0) :
    Calls Try.prog 7 #[.slice a n cap] w fun e w' => ∃ a', e = .returned (.slice a' n n) ∧ OpsAt w' a' n kf vf df ∧ Below w.heap.size w w' ∧ ∀ x, a' = some x → x.block < w'.heap.size := by
  cases a with
  | none =>
    obtain ⟨rfl, rfl⟩ := ha rfl
    refine (copy_nil w).mono ?_
    rintro e w' ⟨rfl, rfl⟩
    exact ⟨none, rfl, fun i hi => by omega, Below.refl _ _, fun x hx => by cases hx⟩
  | some x => exact copy_some x n cap kf vf df w h hn

end Go.Proofs.Qxb6603588a

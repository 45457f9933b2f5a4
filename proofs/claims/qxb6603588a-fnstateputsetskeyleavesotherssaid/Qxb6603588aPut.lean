import Derived.Test.Qxb6603588aState
namespace Go.Proofs.Qxb6603588a
open Go.RowKit Go.Maps

/-- A State behind the pointer to block sb, which holds f; its blocks lie from B on; nothing was ever taken up by its tree. -/
structure SI (w : World) (B n sb : Nat) (mc md : Option Nat) (f : Key → Option ByteArray) : Prop where
  hB : B ≤ sb
  lt : sb < w.heap.size
  root : w.cell? ⟨sb, 1, none⟩ = some (.pointer none)
  c : w.cell? ⟨sb, 39, none⟩ = some (.map mc)
  cf : w.frozen? ⟨sb, 39, none⟩ = false
  d : w.cell? ⟨sb, 40, none⟩ = some (.map md)
  df : w.frozen? ⟨sb, 40, none⟩ = false
  ms : MS w B n mc f
  md' : MD w B n md
  ne1 : mc ≠ some sb
  ne2 : md ≠ some sb
  ne3 : mc = none ∨ mc ≠ md

theorem grown_frozen {w w' : World} {row : Option Nat} (hg : w.grownBy w' row) {a : Addr} (hl : a.block < w.heap.size) (hne : some a.block ≠ row) : w'.frozen? a = w.frozen? a := World.frozen?_of_block (hg.block a.block hl hne)

theorem SI.sbLe {w : World} {B n sb : Nat} {mc md : Option Nat} {f : Key → Option ByteArray} (h : SI w B n sb mc md f) : B ≤ w.heap.size := by have := h.hB; have := h.lt; omega

/-- The map of changed keys has turned, and nothing else. -/
theorem SI.turnC {w w' : World} {B n n' sb : Nat} {mc md : Option Nat} {f g : Key → Option ByteArray} (h : SI w B n sb mc md f) (hn : n ≤ n') (ms' : MS w' B n' mc g) (hg : w.grownBy w' mc) : SI w' B n' sb mc md g ∧ Below B w w' := by
  have hne : some sb ≠ mc := fun e => h.ne1 e.symm
  have hmd : md = none ∨ md ≠ mc := by
    cases md with
    | none => exact .inl rfl
    | some x =>
      right
      rcases h.ne3 with e | e
      · rw [e]; simp
      · exact fun q => e q.symm
  refine ⟨⟨h.hB, Nat.lt_of_lt_of_le h.lt hg.size, hg.cell h.root hne, hg.cell h.c hne, (grown_frozen hg h.lt hne).trans h.cf, hg.cell h.d hne, (grown_frozen hg h.lt hne).trans h.df, ms', (h.md'.kept hg hmd).mono hn, h.ne1, h.ne2, h.ne3⟩, ?_⟩
  refine (Below.refl _ _).grown hg h.sbLe (fun k hk => ?_)
  subst hk
  exact h.ms.lt.1

/-- The map of deleted keys has turned, and nothing else. -/
theorem SI.turnD {w w' : World} {B n n' sb : Nat} {mc md : Option Nat} {f : Key → Option ByteArray} (h : SI w B n sb mc md f) (hn : n ≤ n') (md' : MD w' B n' md) (hg : w.grownBy w' md) : SI w' B n' sb mc md f ∧ Below B w w' := by
  have hne : some sb ≠ md := fun e => h.ne2 e.symm
  refine ⟨⟨h.hB, Nat.lt_of_lt_of_le h.lt hg.size, hg.cell h.root hne, hg.cell h.c hne, (grown_frozen hg h.lt hne).trans h.cf, hg.cell h.d hne, (grown_frozen hg h.lt hne).trans h.df, (h.ms.kept hg h.ne3).mono hn, md', h.ne1, h.ne2, h.ne3⟩, ?_⟩
  refine (Below.refl _ _).grown hg h.sbLe (fun k hk => ?_)
  subst hk
  exact h.md'.lt.1

theorem put_some (B n sb b : Nat) (md : Option Nat) (f : Key → Option ByteArray) (s v : ByteArray) (w : World) (h : SI w B n sb (some b) md f) (hn : n < maxLen) (hs : s.size ≤ maxLen) (hv : v.size ≤ maxLen) :
    Calls Try.prog 12 #[.pointer (some ⟨sb, 0, none⟩), .string s, .string v] w fun e w' => e = .returned (.tuple #[]) ∧ SI w' B (n + 1) sb (some b) md (upd f s.data.toList (some v)) ∧ Below B w w' := by
  obtain ⟨w', hrun, ms', hg⟩ := h.ms.put hn hs hv
  have q38 := fun (w : World) => run_eql_map_nil (P := Try.prog) w 38 9 9 (some b) Try.underlying38
  have hc := h.c
  have HR : Hid (SI w' B (n + 1) sb (some b) md (upd f s.data.toList (some v)) ∧ Below B w w') := h.turnC (Nat.le_succ _) ms' hg
  clear h ms' hg
  go_enter Try.func12, Try.ntmps12
  go_wp2
  go_end0
  exact ⟨rfl, HR.out.1, HR.out.2⟩

theorem cell_other {w : World} {sb o o' : Nat} {u v : Value} (hne : o ≠ o') (h : w.cell? ⟨sb, o', none⟩ = some u) : (w.setCell ⟨sb, o, none⟩ v).cell? ⟨sb, o', none⟩ = some u := by
  rw [← h]
  apply World.cell?_setCell_other
  intro e
  cases e
  exact hne rfl
theorem cell_alloc {w : World} {a : Addr} {u : Value} (o : Obj) (h : w.cell? a = some u) : (w.alloc o).cell? a = some u := by
  rw [← h]
  exact World.cell?_alloc_lt _ _ _ (World.block_lt_of_cell? _ _ h)
theorem frozen_alloc {w : World} {a : Addr} (o : Obj) (hl : a.block < w.heap.size) : (w.alloc o).frozen? a = w.frozen? a := grown_frozen (World.grownBy_alloc w o none) hl (by simp)

/-- Behind 's.changed = make(map[string]string)'. -/
theorem SI.makeC {w : World} {B n sb : Nat} {md : Option Nat} {f : Key → Option ByteArray} (h : SI w B n sb none md f) : SI ((w.alloc (.map #[] 0)).setCell ⟨sb, 39, none⟩ (.map (some w.heap.size))) B n sb (some w.heap.size) md f ∧ Below B w ((w.alloc (.map #[] 0)).setCell ⟨sb, 39, none⟩ (.map (some w.heap.size))) := by
  have hlt := h.lt
  have hf : ∀ k, f k = none := by
    rcases h.ms with ⟨_, h0⟩ | ⟨b, D, e, _⟩
    · exact h0
    · cases e
  have hms := (MS.made w B h.sbLe f hf).mono (Nat.zero_le n)
  have hg1 : w.grownBy (w.alloc (.map #[] 0)) none := World.grownBy_alloc w _ _
  have hg2 : (w.alloc (.map #[] 0)).grownBy ((w.alloc (.map #[] 0)).setCell ⟨sb, 39, none⟩ (.map (some w.heap.size))) (some sb) :=
    ⟨rfl, rfl, rfl, by simp [World.setCell], fun k _ hk => Below.heap_setCell _ _ _ _ (fun e => hk (by simp [e]))⟩
  have hmd : md = none ∨ md ≠ some sb := .inr h.ne2
  refine ⟨⟨h.hB, by simp [World.setCell]; omega, ?_, ?_, ?_, ?_, ?_, hms.kept hg2 (.inr (by simp; omega)), (h.md'.kept hg1 (by cases md <;> simp)).kept hg2 hmd, by simp; omega, h.ne2, .inr ?_⟩, ?_⟩
  · exact cell_other (by decide) (cell_alloc _ h.root)
  · exact World.cell?_setCell_same _ _ _ (cell_alloc _ h.c)
  · rw [World.frozen?_setCell, frozen_alloc _ h.lt]; exact h.cf
  · exact cell_other (by decide) (cell_alloc _ h.d)
  · rw [World.frozen?_setCell, frozen_alloc _ h.lt]; exact h.df
  · cases md with
    | none => simp
    | some x => have := h.md'.lt; simp; omega
  · exact ((Below.refl _ _).alloc h.sbLe _).setCell h.hB _


theorem put_none (B n sb : Nat) (md : Option Nat) (f : Key → Option ByteArray) (s v : ByteArray) (w : World) (h : SI w B n sb none md f) (hn : n < maxLen) (hs : s.size ≤ maxLen) (hv : v.size ≤ maxLen) :
    Calls Try.prog 12 #[.pointer (some ⟨sb, 0, none⟩), .string s, .string v] w fun e w' => e = .returned (.tuple #[]) ∧ SI w' B (n + 1) sb (some w.heap.size) md (upd f s.data.toList (some v)) ∧ Below B w w' := by
  obtain ⟨h1, hb1⟩ := h.makeC
  obtain ⟨w', hrun, ms', hg⟩ := h1.ms.put hn hs hv
  have q38 := fun (w : World) => run_eql_map_nil (P := Try.prog) w 38 9 9 none Try.underlying38
  have hmm := @run_makeMap Try.prog
  have hc := h.c
  have hcf := h.cf
  have hlt := h.lt
  have hT := h1.turnC (Nat.le_succ _) ms' hg
  have HR : Hid (SI w' B (n + 1) sb (some w.heap.size) md (upd f s.data.toList (some v)) ∧ Below B w w') := ⟨hT.1, hb1.trans hT.2⟩
  rw [World.setCell_alloc_past _ _ _ _ hlt] at hrun
  clear h h1 hb1 hT ms' hg
  go_enter Try.func12, Try.ntmps12
  go_wp2
  go_end0
  exact ⟨rfl, HR.out.1, HR.out.2⟩


/-- Put, whatever the map was. -/
theorem put_any (B n sb : Nat) (mc md : Option Nat) (f : Key → Option ByteArray) (s v : ByteArray) (w : World) (h : SI w B n sb mc md f) (hn : n < maxLen) (hs : s.size ≤ maxLen) (hv : v.size ≤ maxLen) :
    Calls Try.prog 12 #[.pointer (some ⟨sb, 0, none⟩), .string s, .string v] w fun e w' => e = .returned (.tuple #[]) ∧ (∃ mc, SI w' B (n + 1) sb mc md (upd f s.data.toList (some v))) ∧ Below B w w' := by
  cases mc with
  | none =>
    refine (put_none B n sb md f s v w h hn hs hv).mono ?_
    rintro e w' ⟨rfl, h1, h2⟩
    exact ⟨rfl, ⟨_, h1⟩, h2⟩
  | some b =>
    refine (put_some B n sb b md f s v w h hn hs hv).mono ?_
    rintro e w' ⟨rfl, h1, h2⟩
    exact ⟨rfl, ⟨_, h1⟩, h2⟩

/-- Behind 's.deleted = make(map[string]bool)'. -/
theorem SI.makeD {w : World} {B n sb : Nat} {mc : Option Nat} {f : Key → Option ByteArray} (h : SI w B n sb mc none f) : SI ((w.alloc (.map #[] 0)).setCell ⟨sb, 40, none⟩ (.map (some w.heap.size))) B n sb mc (some w.heap.size) f ∧ Below B w ((w.alloc (.map #[] 0)).setCell ⟨sb, 40, none⟩ (.map (some w.heap.size))) := by
  have hlt := h.lt
  have hmd := (MD.made w B h.sbLe).mono (Nat.zero_le n)
  have hg1 : w.grownBy (w.alloc (.map #[] 0)) none := World.grownBy_alloc w _ _
  have hg2 : (w.alloc (.map #[] 0)).grownBy ((w.alloc (.map #[] 0)).setCell ⟨sb, 40, none⟩ (.map (some w.heap.size))) (some sb) :=
    ⟨rfl, rfl, rfl, by simp [World.setCell], fun k _ hk => Below.heap_setCell _ _ _ _ (fun e => hk (by simp [e]))⟩
  have hmc : mc = none ∨ mc ≠ some sb := .inr h.ne1
  refine ⟨⟨h.hB, by simp [World.setCell]; omega, ?_, ?_, ?_, ?_, ?_, (h.ms.kept hg1 (by cases mc <;> simp)).kept hg2 hmc, hmd.kept hg2 (.inr (by simp; omega)), h.ne1, by simp; omega, ?_⟩, ?_⟩
  · exact cell_other (by decide) (cell_alloc _ h.root)
  · exact cell_other (by decide) (cell_alloc _ h.c)
  · rw [World.frozen?_setCell, frozen_alloc _ h.lt]; exact h.cf
  · exact World.cell?_setCell_same _ _ _ (cell_alloc _ h.d)
  · rw [World.frozen?_setCell, frozen_alloc _ h.lt]; exact h.df
  · cases mc with
    | none => exact .inl rfl
    | some x => right; have := h.ms.lt; simp; omega
  · exact ((Below.refl _ _).alloc h.sbLe _).setCell h.hB _

theorem del_some (B n sb b : Nat) (mc : Option Nat) (f : Key → Option ByteArray) (s : ByteArray) (w : World) (h : SI w B n sb mc (some b) f) (hn : n < maxLen) (hs : s.size ≤ maxLen) :
    Calls Try.prog 13 #[.pointer (some ⟨sb, 0, none⟩), .string s] w fun e w' => e = .returned (.tuple #[]) ∧ SI w' B (n + 1) sb mc (some b) (upd f s.data.toList none) ∧ Below B w w' := by
  obtain ⟨w1, hrun, md1, hg1⟩ := h.md'.put hn hs
  obtain ⟨h1, hb1⟩ := h.turnD (Nat.le_succ _) md1 hg1
  have hdel := fun ty => h1.ms.del hs ty
  have q39 := fun (w : World) => run_eql_map_nil (P := Try.prog) w 39 9 4 (some b) Try.underlying39
  have hd := h.d
  have hc1 := h1.c
  have HI : Hid (SI w1 B (n + 1) sb mc (some b) f) := h1
  have HB : Hid (Below B w w1) := hb1
  obtain ⟨w2, hrun2, ms2, hg2⟩ := hdel 0
  have HR : Hid (SI w2 B (n + 1) sb mc (some b) (upd f s.data.toList none) ∧ Below B w w2) := by
    have := h1.turnC (Nat.le_refl _) ms2 hg2
    exact ⟨this.1, hb1.trans this.2⟩
  clear h h1 hb1 md1 hg1 hdel ms2 hg2
  go_enter Try.func13, Try.ntmps13
  go_wp2
  go_end0
  exact ⟨rfl, HR.out.1, HR.out.2⟩

theorem del_none (B n sb : Nat) (mc : Option Nat) (f : Key → Option ByteArray) (s : ByteArray) (w : World) (h : SI w B n sb mc none f) (hn : n < maxLen) (hs : s.size ≤ maxLen) :
    Calls Try.prog 13 #[.pointer (some ⟨sb, 0, none⟩), .string s] w fun e w' => e = .returned (.tuple #[]) ∧ SI w' B (n + 1) sb mc (some w.heap.size) (upd f s.data.toList none) ∧ Below B w w' := by
  obtain ⟨h0, hb0⟩ := h.makeD
  obtain ⟨w1, hrun, md1, hg1⟩ := h0.md'.put hn hs
  obtain ⟨h1, hb1⟩ := h0.turnD (Nat.le_succ _) md1 hg1
  obtain ⟨w2, hrun2, ms2, hg2⟩ := h1.ms.del hs 0
  have q39 := fun (w : World) => run_eql_map_nil (P := Try.prog) w 39 9 4 none Try.underlying39
  have hmm := @run_makeMap Try.prog
  have hd := h.d
  have hdf := h.df
  have hlt := h.lt
  have hc1 := h1.c
  have HR : Hid (SI w2 B (n + 1) sb mc (some w.heap.size) (upd f s.data.toList none) ∧ Below B w w2) := by
    have := h1.turnC (Nat.le_refl _) ms2 hg2
    exact ⟨this.1, (hb0.trans hb1).trans this.2⟩
  rw [World.setCell_alloc_past _ _ _ _ hlt] at hrun
  clear h h0 hb0 h1 hb1 md1 hg1 ms2 hg2
  go_enter Try.func13, Try.ntmps13
  go_wp2
  go_end0
  exact ⟨rfl, HR.out.1, HR.out.2⟩

theorem del_any (B n sb : Nat) (mc md : Option Nat) (f : Key → Option ByteArray) (s : ByteArray) (w : World) (h : SI w B n sb mc md f) (hn : n < maxLen) (hs : s.size ≤ maxLen) :
    Calls Try.prog 13 #[.pointer (some ⟨sb, 0, none⟩), .string s] w fun e w' => e = .returned (.tuple #[]) ∧ (∃ md, SI w' B (n + 1) sb mc md (upd f s.data.toList none)) ∧ Below B w w' := by
  cases md with
  | none =>
    refine (del_none B n sb mc f s w h hn hs).mono ?_
    rintro e w' ⟨rfl, h1, h2⟩
    exact ⟨rfl, ⟨_, h1⟩, h2⟩
  | some b =>
    refine (del_some B n sb b mc f s w h hn hs).mono ?_
    rintro e w' ⟨rfl, h1, h2⟩
    exact ⟨rfl, ⟨_, h1⟩, h2⟩

/-- (*tree).get on a tree that was never filled. -/
theorem treeGet_nil (sb : Nat) (s : ByteArray) (w : World) (hr : w.cell? ⟨sb, 1, none⟩ = some (.pointer none)) :
    Calls Try.prog 14 #[.pointer (some ⟨sb, 1, none⟩), .string s] w fun e w' => e = .returned (.tuple #[.string ⟨#[]⟩, .bool false]) ∧ w' = w := by
  go_enter Try.func14, Try.ntmps14
  go_wp2
  go_loop [6] (fun v => v = .pointer none) (fun _ => 0)
  case atStart => rfl
  case round =>
    subst hrel
    go_wp2
    go_ret2
    exact ⟨rfl, rfl⟩

theorem get_any (B n sb : Nat) (mc md : Option Nat) (f : Key → Option ByteArray) (s : ByteArray) (w : World) (h : SI w B n sb mc md f) (hs : s.size ≤ maxLen) :
    Calls Try.prog 9 #[.pointer (some ⟨sb, 0, none⟩), .string s] w fun e w' => e = .returned (.tuple #[.string ((f s.data.toList).getD ⟨#[]⟩), .bool (f s.data.toList).isSome]) ∧ w' = w := by
  have hl := h.ms.look hs
  obtain ⟨c, hl2⟩ := h.md'.look hs
  have hc := h.c
  have hd := h.d
  have hr := h.root
  clear h
  cases hf : f s.data.toList with
  | some v =>
    rw [hf] at hl
    simp only [Option.getD_some, Option.isSome_some] at hl ⊢
    clear hf
    go_enter Try.func9, Try.ntmps9
    go_wp2
    go_ret2
    exact ⟨rfl, rfl⟩
  | none =>
    rw [hf] at hl
    simp only [Option.getD_none, Option.isSome_none] at hl ⊢
    clear hf
    cases c with
    | true =>
      go_enter Try.func9, Try.ntmps9
      go_wp2
      go_ret2
      exact ⟨rfl, rfl⟩
    | false =>
      go_enter Try.func9, Try.ntmps9
      go_wp2_with (go_at_call 14; refine (treeGet_nil sb s _ hr).mono ?_; rintro e w' ⟨rfl, rfl⟩)
      go_ret2
      exact ⟨rfl, rfl⟩

end Go.Proofs.Qxb6603588a

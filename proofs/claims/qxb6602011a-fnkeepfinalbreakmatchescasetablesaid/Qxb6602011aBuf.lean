import Derived.Test.Qxb6602011aClone
import Derived.Laws.AppendOwnNone
import Derived.ArgAppend
namespace Go.Proofs.Qxb6602011a
open Go.RowKit
open Plain

/-- The slice v is the call's own and holds the bytes cs. -/
def Buf (w : World) (v : Value) (cs : List Int) : Prop := w.ownsRow 0 5 1 v cs.length (cs.map (Value.int .u8))

/-- From (w, v) to (w', v') by appending to v alone: new blocks; of the old ones v's own alone may have turned; v' lies in v's block or in a new one. -/
structure App (w : World) (v : Value) (w' : World) (v' : Value) : Prop where
  grown : w.grownBy w' v.ownBlock
  moved : v'.ownBlock = v.ownBlock ∨ ∃ k, v'.ownBlock = some k ∧ w.heap.size ≤ k

theorem App.refl (w : World) (v : Value) : App w v w v := ⟨⟨rfl, rfl, rfl, Nat.le_refl _, fun _ _ _ => rfl⟩, .inl rfl⟩

theorem App.trans {w w1 w2 : World} {v v1 v2 : Value} (h : App w v w1 v1) (k : App w1 v1 w2 v2) : App w v w2 v2 := by
  refine ⟨⟨k.grown.os.trans h.grown.os, k.grown.tape.trans h.grown.tape, k.grown.output.trans h.grown.output, Nat.le_trans h.grown.size k.grown.size, ?_⟩, ?_⟩
  · intro i hi hne
    rw [k.grown.block i (Nat.lt_of_lt_of_le hi h.grown.size) ?_]
    · exact h.grown.block i hi hne
    · rcases h.moved with e | ⟨q, e, hq⟩
      · rw [e]; exact hne
      · rw [e]; intro e2; simp at e2; omega
  · rcases k.moved with e | ⟨q, e, hq⟩
    · rw [e]
      exact h.moved
    · exact .inr ⟨q, e, Nat.le_trans h.grown.size hq⟩

theorem App.alloc (w : World) (v : Value) (o : Obj) : App w v (w.alloc o) v := ⟨World.grownBy_alloc w o _, .inl rfl⟩

theorem Buf.alloc {w : World} {v : Value} {cs : List Int} (h : Buf w v cs) (o : Obj) : Buf (w.alloc o) v cs := World.ownsRow.alloc h o

theorem row_eq (z : Nat → Int) (m : Nat) : row z m = ((List.range m).map z).map (Value.int .u8) := by simp [row]

theorem Text.grown {w w' : World} {row : Option Nat} {ao : Option Addr} {n : Nat} {z : Nat → Int} (h : Text w ao n z) (hg : w.grownBy w' row) (hs : ∀ b off, ao = some ⟨b, off, none⟩ → some b ≠ row) : Text w' ao n z := by
  intro k hk
  obtain ⟨b, off, rfl, hc⟩ := h k hk
  exact ⟨b, off, rfl, hg.cell hc (hs b off rfl)⟩

theorem run_append_buf (w : World) (v : Value) (cs : List Int) (hb : Buf w v cs) (ao : Option Addr) (m c : Nat) (z : Nat → Int) (ht : Text w ao m z) (hn : ao = none → m = 0 ∧ c = 0) (hlen : cs.length + m ≤ 1099511627776) (ty : TypeId) :
    ∃ v' w', (Builtin.append_ #[22, 22] ty #[v, .slice ao m c]).run Try.prog w = .ok v' w' ∧ Buf w' v' (cs ++ (List.range m).map z) ∧ App w v w' v' := by
  obtain ⟨i0, hi, hz0, hz1, hz2⟩ := info_parts info5
  cases ao with
  | none =>
    obtain ⟨rfl, rfl⟩ := hn rfl
    have hrun := run_append_owned_none (P := Try.prog) (w := w) 0 22 ty 5 i0 1 Try.underlying22 hi v cs.length (cs.map (Value.int .u8)) hb
    exact ⟨v, w, hrun, by simpa using hb, App.refl w v⟩
  | some ad =>
    have hnews : ∀ j u, (row z m)[j]? = some u → w.cell? (ad.add j) = some u := by
      intro j u hu
      obtain ⟨hj, rfl⟩ := row_get hu
      obtain ⟨b, off, he, hc⟩ := ht j hj
      simp only [Option.some.injEq] at he
      subst he
      rw [add_plain]; exact hc
    obtain ⟨v', w', hrun, hown, hgr, _⟩ := run_append_own (P := Try.prog) w 0 22 ty 5 i0 (.int .u8 0) 1 1 Try.underlying22 hi hz0 hz1 hz2 rfl (by decide) v cs.length (cs.map (Value.int .u8)) hb ad m c (row z m) (by simp [row_length]) hnews (row_one z m) (by unfold maxLen; omega) (by omega) (Nat.zero_le _)
    refine ⟨v', w', hrun, ?_, hgr, ?_⟩
    · unfold Buf
      rw [row_eq, ← List.map_append] at hown
      rw [List.length_append, List.length_map, List.length_range]
      exact hown
    · rcases hb.2 with ⟨rfl, hlen0⟩ | ⟨g, cap, cur, rfl, _, hg, hc1, hc2, hc3, hc4⟩
      · have h0 : cs = [] := by simpa using hlen0
        subst h0
        obtain ⟨v2, w2, hrun2, hown2, _, _⟩ := run_append_own (P := Try.prog) w w.heap.size 22 ty 5 i0 (.int .u8 0) 1 1 Try.underlying22 hi hz0 hz1 hz2 rfl (by decide) (.slice none 0 0) 0 [] (World.ownsRow_nil _ _ _ _) ad m c (row z m) (by simp [row_length]) hnews (row_one z m) (by unfold maxLen; simp at hlen; omega) (by simp at hlen; omega) (Nat.le_refl _)
        rw [hrun2] at hrun
        simp only [Result.ok.injEq] at hrun
        obtain ⟨rfl, rfl⟩ := hrun
        cases hv : v2.ownBlock with
        | none => exact .inl rfl
        | some k => exact .inr ⟨k, rfl, (hown2.lt k hv).1⟩
      · by_cases hroom : cs.length + m ≤ cap
        · have hr := run_append_room (P := Try.prog) w 22 ty 5 i0 Try.underlying22 hi g cs.length cap cur hg ad m c (row z m) (by simp [row_length, hz1]) hnews (row_one z m) hroom (by rw [row_length, hz1, hc3]; omega)
          rw [hr] at hrun
          simp only [Result.ok.injEq] at hrun
          obtain ⟨rfl, rfl⟩ := hrun
          exact .inl rfl
        · have holds : ∀ j u, (cs.map (Value.int .u8))[j]? = some u → w.cell? ((⟨g, 0, none⟩ : Addr).add j) = some u := World.ownsRow.cells hb (g := g) rfl
          obtain ⟨v2, w2, hrun2, hown2, _⟩ := run_append_arg_grows (P := Try.prog) w 22 ty 5 i0 (.int .u8 0) 1 1 Try.underlying22 hi hz0 hz1 hz2 rfl (by decide) ⟨g, 0, none⟩ cs.length cap (cs.map (Value.int .u8)) (by simp) holds ad m c (row z m) (by simp [row_length]) hnews (by omega) (by unfold maxLen; omega) (by omega)
          rw [hrun2] at hrun
          simp only [Result.ok.injEq] at hrun
          obtain ⟨rfl, rfl⟩ := hrun
          cases hv : v2.ownBlock with
          | none =>
            rcases hown2.2 with ⟨_, h0⟩ | ⟨g', cap', cur', rfl, _⟩
            · omega
            · simp [Value.ownBlock] at hv
          | some k => exact .inr ⟨k, rfl, (hown2.lt k hv).1⟩

/-- THE LAW FOR THE WALK: append(v, src...), v the call's own, src a text. -/
theorem wpList_append_buf {w : World} {ops : Array Oper} {rest : List Oper} {o : Oper} {a : Act} {Q : Exit → Act → World → Prop} (hgd : o.guard = none) (s x : Operand)
    (ho : o.op = .call { callee := .builtin .append, args := #[s, x], argTypes := #[22, 22] })
    (v : Value) (cs : List Int) (hs : a.eval s = v) (hb : Buf w v cs) (ao : Option Addr) (m c : Nat) (z : Nat → Int) (hx : a.eval x = .slice ao m c) (ht : Text w ao m z) (hn : ao = none → m = 0 ∧ c = 0) (hlen : cs.length + m ≤ 1099511627776)
    (h : ∀ v' w', Buf w' v' (cs ++ (List.range m).map z) → App w v w' v' → wpList Try.prog ops Q rest (a.put o.dst v') w') : wpList Try.prog ops Q (o :: rest) a w := by
  refine wpList_plain hgd fun K hK => ?_
  obtain ⟨v', w', hr, h2, h3⟩ := run_append_buf w v cs hb ao m c z ht hn hlen o.type
  unfold Oper.wp execOp
  simp only [ho, resolve, invoke, builtin, Sem.run_bind, Sem.run_pure, Result.andThen_ok, List.map_toArray, List.map_cons, List.map_nil, hs, hx, hr]
  exact hK _ _ (h v' w' h2 h3)

end Go.Proofs.Qxb6602011a

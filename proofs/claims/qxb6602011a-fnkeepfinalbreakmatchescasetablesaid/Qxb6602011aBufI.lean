import Derived.Test.Qxb6602011aBuf
namespace Go.Proofs.Qxb6602011a
open Go.RowKit
open Plain

theorem info3 : (Try.prog.info? 3).map (fun i => (i.zero, i.size, i.bytes)) = some (some (.int .i64 0), 1, 8) := by kernel_rfl

/-- The slice at a holds the n ints z 0 .. z (n-1). -/
def TextI (w : World) (a : Option Addr) (n : Nat) (z : Nat → Nat) : Prop :=
  ∀ k, k < n → ∃ b off, a = some ⟨b, off, none⟩ ∧ w.cell? ⟨b, off + k, none⟩ = some (.int .i64 (z k))

/-- The slice v is the call's own, in a block from B on, and holds the ints cs. -/
def BufI (B : Nat) (w : World) (v : Value) (cs : List Nat) : Prop := w.ownsRow B 3 1 v cs.length (cs.map fun k : Nat => Value.int .i64 k)

theorem BufI.alloc {B : Nat} {w : World} {v : Value} {cs : List Nat} (h : BufI B w v cs) (o : Obj) : BufI B (w.alloc o) v cs := World.ownsRow.alloc h o

theorem run_append_bufI (B : Nat) (w : World) (v : Value) (cs : List Nat) (hb : BufI B w v cs) (hB : B ≤ w.heap.size) (g1 x : Nat) (hc : w.cell? ⟨g1, 0, none⟩ = some (.int .i64 x)) (hlen : cs.length + 1 ≤ 1099511627776) (ty : TypeId) :
    ∃ v' w', (Builtin.append_ #[48, 48] ty #[v, .slice (some ⟨g1, 0, none⟩) 1 1]).run Try.prog w = .ok v' w' ∧ BufI B w' v' (cs ++ [x]) ∧ App w v w' v' := by
  obtain ⟨i0, hi, hz0, hz1, hz2⟩ := info_parts info3
  have hnews : ∀ j u, [Value.int .i64 x][j]? = some u → w.cell? ((⟨g1, 0, none⟩ : Addr).add j) = some u := by
    intro j u hu
    cases j with
    | zero => simp at hu; subst hu; rw [add_plain]; exact hc
    | succ j => simp at hu
  have hone : ∀ u ∈ [Value.int .i64 (x : Int)], u.oneCell' = true := by
    intro u hu
    simp at hu
    subst hu
    rfl
  obtain ⟨v', w', hrun, hown, hgr, _⟩ := run_append_own (P := Try.prog) w B 48 ty 3 i0 (.int .i64 0) 1 8 Try.underlying48 hi hz0 hz1 hz2 rfl (by decide) v cs.length (cs.map fun k : Nat => Value.int .i64 k) hb ⟨g1, 0, none⟩ 1 1 [Value.int .i64 x] rfl hnews hone (by unfold maxLen; omega) (by omega) hB
  refine ⟨v', w', hrun, ?_, hgr, ?_⟩
  · unfold BufI
    rw [List.length_append, List.map_append]
    exact hown
  · rcases hb.2 with ⟨rfl, hlen0⟩ | ⟨g, cap, cur, rfl, _, hg, hc1, hc2, hc3, hc4⟩
    · have h0 : cs = [] := by simpa using hlen0
      subst h0
      obtain ⟨v2, w2, hrun2, hown2, _, _⟩ := run_append_own (P := Try.prog) w w.heap.size 48 ty 3 i0 (.int .i64 0) 1 8 Try.underlying48 hi hz0 hz1 hz2 rfl (by decide) (.slice none 0 0) 0 [] (World.ownsRow_nil _ _ _ _) ⟨g1, 0, none⟩ 1 1 [Value.int .i64 x] rfl hnews hone (by unfold maxLen; omega) (by omega) (Nat.le_refl _)
      rw [hrun2] at hrun
      simp only [Result.ok.injEq] at hrun
      obtain ⟨rfl, rfl⟩ := hrun
      cases hv : v2.ownBlock with
      | none => exact .inl rfl
      | some k => exact .inr ⟨k, rfl, (hown2.lt k hv).1⟩
    · by_cases hroom : cs.length + 1 ≤ cap
      · have hr := run_append_room (P := Try.prog) w 48 ty 3 i0 Try.underlying48 hi g cs.length cap cur hg ⟨g1, 0, none⟩ 1 1 [Value.int .i64 x] (by simp [hz1]) hnews hone hroom (by rw [hz1, hc3]; simp; omega)
        rw [hr] at hrun
        simp only [Result.ok.injEq] at hrun
        obtain ⟨rfl, rfl⟩ := hrun
        exact .inl rfl
      · have holds : ∀ j u, (cs.map fun k : Nat => Value.int .i64 (k : Int))[j]? = some u → w.cell? ((⟨g, 0, none⟩ : Addr).add j) = some u := World.ownsRow.cells hb (g := g) rfl
        obtain ⟨v2, w2, hrun2, hown2, _⟩ := run_append_arg_grows (P := Try.prog) w 48 ty 3 i0 (.int .i64 0) 1 8 Try.underlying48 hi hz0 hz1 hz2 rfl (by decide) ⟨g, 0, none⟩ cs.length cap (cs.map fun k : Nat => Value.int .i64 k) (by simp) holds ⟨g1, 0, none⟩ 1 1 [Value.int .i64 x] rfl hnews (by omega) (by unfold maxLen; omega) (by omega)
        rw [hrun2] at hrun
        simp only [Result.ok.injEq] at hrun
        obtain ⟨rfl, rfl⟩ := hrun
        cases hv : v2.ownBlock with
        | none =>
          rcases hown2.2 with ⟨_, h0⟩ | ⟨g', cap', cur', rfl, _⟩
          · omega
          · simp [Value.ownBlock] at hv
        | some k => exact .inr ⟨k, rfl, (hown2.lt k hv).1⟩

theorem wpList_append_bufI {w : World} {ops : Array Oper} {rest : List Oper} {o : Oper} {a : Act} {Q : Exit → Act → World → Prop} (hgd : o.guard = none) (s x : Operand)
    (ho : o.op = .call { callee := .builtin .append, args := #[s, x], argTypes := #[48, 48] })
    (B : Nat) (v : Value) (cs : List Nat) (hs : a.eval s = v) (hb : BufI B w v cs) (hB : B ≤ w.heap.size) (g1 y : Nat) (hx : a.eval x = .slice (some ⟨g1, 0, none⟩) 1 1) (hc : w.cell? ⟨g1, 0, none⟩ = some (.int .i64 y)) (hlen : cs.length + 1 ≤ 1099511627776)
    (h : ∀ v' w', BufI B w' v' (cs ++ [y]) → App w v w' v' → wpList Try.prog ops Q rest (a.put o.dst v') w') : wpList Try.prog ops Q (o :: rest) a w := by
  refine wpList_plain hgd fun K hK => ?_
  obtain ⟨v', w', hr, h2, h3⟩ := run_append_bufI B w v cs hb hB g1 y hc hlen o.type
  unfold Oper.wp execOp
  simp only [ho, resolve, invoke, builtin, Sem.run_bind, Sem.run_pure, Result.andThen_ok, List.map_toArray, List.map_cons, List.map_nil, hs, hx, hr]
  exact hK _ _ (h v' w' h2 h3)

theorem BufI.form {B : Nat} {w : World} {v : Value} {cs : List Nat} (h : BufI B w v cs) : ∃ a c, v = .slice a cs.length c ∧ TextI w a cs.length (fun k => cs.getD k 0) := by
  rcases h.2 with ⟨rfl, h0⟩ | ⟨g, cap, cur, rfl, hb, hg, hc1, hc2, hc3, hc4⟩
  · exact ⟨none, 0, by rw [h0], fun k hk => by omega⟩
  · refine ⟨_, cap, rfl, fun k hk => ⟨g, 0, rfl, ?_⟩⟩
    have h3 : (cur.toList.take (cs.length * 1))[k]? = some (.int .i64 (cs.getD k 0 : Nat)) := by
      rw [hc4]; simp [hk]
    rw [List.getElem?_take_of_lt (by omega)] at h3
    simp only [Array.getElem?_toList] at h3
    simp [World.cell?, hg, h3]

theorem BufI.kept {B : Nat} {w w' : World} {v u u' : Value} {cs : List Nat} (h : BufI B w v cs) (ha : App w u w' u') (hne : v.ownBlock = none ∨ v.ownBlock ≠ u.ownBlock) : BufI B w' v cs := World.ownsRow.kept h ha.grown hne

/-- Two slices of the call's own do not share their block. -/
def Sep (v u : Value) : Prop := v.ownBlock = none ∨ v.ownBlock ≠ u.ownBlock

theorem Sep.symm {v u : Value} (h : Sep v u) : Sep u v := by
  unfold Sep at *
  cases hv : v.ownBlock with
  | none => cases hu : u.ownBlock <;> simp
  | some k =>
    rcases h with h | h
    · rw [hv] at h; cases h
    · right; rw [hv] at h; exact fun e => h e.symm

/-- Behind an append to v, u stays apart. -/
theorem Sep.app {B : Nat} {w w' : World} {v v' u : Value} {cs : List Nat} (h : Sep u v) (hu : BufI B w u cs) (ha : App w v w' v') : Sep u v' := by
  unfold Sep at *
  rcases ha.moved with e | ⟨k, e, hk⟩
  · rw [e]; exact h
  · cases hub : u.ownBlock with
    | none => exact .inl rfl
    | some q =>
      right
      rw [e]
      have := (World.ownsRow.lt hu q hub).2
      intro e2; simp at e2; omega

theorem BufI.row {B : Nat} {w : World} {v : Value} {cs : List Nat} (h : BufI B w v cs) : ∀ k, v.ownBlock = some k → B ≤ k := fun k hk => (World.ownsRow.lt h k hk).1

end Go.Proofs.Qxb6602011a

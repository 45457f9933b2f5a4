import Derived.Test.Qxb6603588aGetLaw
import Derived.ProofKit
import Derived.Deep.Strs
namespace Go.Proofs.Qxb6603588a
open Go.ChangeShapes Go.WideShapes Go.RowKit Go.Deep

theorem cells50 : Try.prog.cellsOf 50 = 3 := by kernel_rfl
theorem cells9 : Try.prog.cellsOf 9 = 1 := by kernel_rfl
theorem cells4 : Try.prog.cellsOf 4 = 1 := by kernel_rfl

/-- One step of a script, as it lies. -/
theorem open_step {H : Type} {enc : TypeId × Value → H} {w : World} {a : Addr} {i n : Nat} {cs : List Value} {x : DataW H × List MemPlace} (hc : w.cells? 0 (a.add (i * 3)) 3 = some cs) (h : DataW.trod enc Try.prog w 0 (fun _ => true) true n 50 cs = some x) :
    ∃ q : ByteArray × ByteArray × Bool, w.cell? (a.add (i * 3)) = some (.string q.1) ∧ w.cell? (a.add (i * 3 + 1)) = some (.string q.2.1) ∧ w.cell? (a.add (i * 3 + 2)) = some (.bool q.2.2) ∧ q.1.size ≤ maxLen ∧ q.2.1.size ≤ maxLen := by
  obtain ⟨_, hlen, hcell⟩ := World.cells?_some hc
  obtain ⟨y0, y1, y2, m, _, _, t0, t1, t2⟩ := trod_struct3 Try.underlying50 h
  match cs, hlen with
  | [v0, v1, v2], _ =>
    simp [cells9, cells4] at t0 t1 t2
    have e0 := hcell 0 (by omega)
    have e1 := hcell 1 (by omega)
    have e2 := hcell 2 (by omega)
    rw [Go.Deep.add_add] at e0 e1 e2
    obtain ⟨s0, c0, _, z0⟩ := DataW.trod_string Try.underlying9 t0
    obtain ⟨s1, c1, _, z1⟩ := DataW.trod_string Try.underlying9 t1
    obtain ⟨b2, c2, _⟩ := DataW.trod_bool Try.underlying4 t2
    simp at c0 c1 c2
    subst c0 c1 c2
    exact ⟨(s0, s1, b2), by simpa using e0, by simpa using e1, by simpa using e2, z0, z1⟩

/-- A script that came in. -/
theorem open_ops {H : Type} {enc : TypeId × Value → H} {w : World} {a : Option Addr} {len cap fuel : Nat} {x : DataW H × List MemPlace} (h : DataW.trod enc Try.prog w 0 (fun _ => true) true fuel 22 [.slice a len cap] = some x) :
    ∃ kf vf df, OpsAt w a len kf vf df ∧ (a = none → len = 0 ∧ cap = 0) ∧ len ≤ maxLen ∧ ∀ i, i < len → (kf i).size ≤ maxLen ∧ (vf i).size ≤ maxLen := by
  rcases open_slice Try.underlying22 h with ⟨hcs, _⟩ | ⟨ad, l, c, m, n, D, Pl, hcs, _, hl, hm, hmm, _, hx⟩
  · simp at hcs
    obtain ⟨rfl, rfl, rfl⟩ := hcs
    exact ⟨fun _ => ⟨#[]⟩, fun _ => ⟨#[]⟩, fun _ => false, fun i hi => by omega, fun _ => ⟨rfl, rfl⟩, Nat.zero_le _, fun i hi => by omega⟩
  · simp at hcs
    obtain ⟨rfl, rfl, rfl⟩ := hcs
    simp at hmm
    subst hmm
    rw [cells50] at hx
    obtain ⟨q, hq⟩ := choose_lt (fun i hi => (hx i hi).elim fun cs hcs => open_step hcs.1 hcs.2)
    refine ⟨fun i => (q i).1, fun i => (q i).2.1, fun i => (q i).2.2, fun i hi => ?_, fun e => (by cases e), by omega, fun i hi => (hq i (by omega)).2.2.2⟩
    obtain ⟨b, off, spot⟩ := ad
    obtain ⟨h0, h1, h2, _⟩ := hq i (by omega)
    have hspot : spot = none := by
      have := World.cell?_spot (hq 0 (by omega)).1
      simpa [Addr.add] using this
    subst hspot
    rw [add_plain] at h0 h1 h2
    exact ⟨b, off, rfl, h0, h1, h2⟩

end Go.Proofs.Qxb6603588a

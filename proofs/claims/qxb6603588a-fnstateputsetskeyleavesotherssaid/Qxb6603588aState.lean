import Derived.Test.Qxb6603588aProg
import Derived.WalkKit
import Derived.WalkLawsBesides
import Derived.WalkSpells
import Derived.Maps.Own
import Derived.Maps.OwnOps
import Derived.Maps.OwnSet
import Derived.Maps.StringElems
namespace Go.Proofs.Qxb6603588a
open Go.RowKit Go.Maps
open Go.WideMaps (keyOf_string_mk)

theorem law : Keyed Try.prog 9 := string_keyed Try.underlying9
theorem zero9 (w : World) : (zeroValue 9).run Try.prog w = .ok (.string ⟨#[]⟩) w := by kernel_rfl
theorem zero4 (w : World) : (zeroValue 4).run Try.prog w = .ok (.bool false) w := by kernel_rfl

abbrev Key := List UInt8

/-- The map of changed keys: nil, or a block from B on, of at most n entries, that holds f. -/
def MS (w : World) (B n : Nat) (mv : Option Nat) (f : Key → Option ByteArray) : Prop :=
  (mv = none ∧ ∀ k, f k = none) ∨
  ∃ b D, mv = some b ∧ B ≤ b ∧ w.ownsMap (H := Unit) Try.prog 9 (plainElem Try.prog 9) b n D ∧ (∀ k : Key, Maps.has D (.string k) = (f k).isSome) ∧
    ∀ k v, f k = some v → D.atKey (.string k) (.lit (.string [])) = .lit (.string v.data.toList)

/-- The map of deleted keys: nil, or a block from B on. -/
def MD (w : World) (B n : Nat) (mv : Option Nat) : Prop :=
  mv = none ∨ ∃ b D, mv = some b ∧ B ≤ b ∧ w.ownsMap (H := Unit) Try.prog 9 (plainElem Try.prog 4) b n D

theorem byteArray_eq {a b : ByteArray} (h : a.data.toList = b.data.toList) : a = b := by
  cases a; cases b
  simp at h
  subst h
  rfl

theorem MS.look {w : World} {B n : Nat} {mv : Option Nat} {f : Key → Option ByteArray} (h : MS w B n mv f) {s : ByteArray} (hs : s.size ≤ maxLen) :
    (Instr.lookup 38 (.map mv) (.string s) true).run Try.prog w = .ok (.tuple #[.string ((f s.data.toList).getD ⟨#[]⟩), .bool (f s.data.toList).isSome]) w := by
  have hkey := keyOf_string_mk (P := Try.prog) (k := 9) Try.underlying9 hs
  rcases h with ⟨rfl, hf⟩ | ⟨b, D, rfl, _, hown, hhas, hat⟩
  · rw [Maps.look_nil true law Try.underlying38 (zero9 w) hkey, hf]
    rfl
  · obtain ⟨v, ps, hrun, hv⟩ := hown.look_ok law Try.underlying38 (zero9 w) (plainElem_string (e := 9) Try.underlying9 (by unfold maxLen; decide)) hkey
    obtain ⟨u, rfl, hz, _⟩ := plainElem_string_inv Try.underlying9 hv
    rw [hrun, hhas]
    cases hf : f s.data.toList with
    | none =>
      have hno : Maps.has D (.string s.data.toList) = false := by rw [hhas, hf]; rfl
      rw [Maps.atKey_of_not_has hno] at hz
      simp only [Prod.mk.injEq, DataW.lit.injEq, Lit.string.injEq] at hz
      have hu : u = ⟨#[]⟩ := byteArray_eq hz.1.symm
      subst hu
      rfl
    | some v =>
      rw [hat _ _ hf] at hz
      simp only [Prod.mk.injEq, DataW.lit.injEq, Lit.string.injEq] at hz
      have hu : u = v := byteArray_eq hz.1.symm
      subst hu
      rfl

theorem MD.look {w : World} {B n : Nat} {mv : Option Nat} (h : MD w B n mv) {s : ByteArray} (hs : s.size ≤ maxLen) :
    ∃ c, (Instr.lookup 39 (.map mv) (.string s) false).run Try.prog w = .ok (.bool c) w := by
  have hkey := keyOf_string_mk (P := Try.prog) (k := 9) Try.underlying9 hs
  rcases h with rfl | ⟨b, D, rfl, _, hown⟩
  · exact ⟨false, Maps.look_nil false law Try.underlying39 (zero4 w) hkey⟩
  · obtain ⟨v, ps, hrun, hv⟩ := hown.lookup law Try.underlying39 (zero4 w) (plainElem_bool (e := 4) Try.underlying4 false) hkey
    unfold plainElem at hv
    rw [Try.underlying4] at hv
    cases v <;> simp at hv
    exact ⟨_, hrun⟩

def upd (f : Key → Option ByteArray) (k : Key) (v : Option ByteArray) : Key → Option ByteArray := fun x => if x = k then v else f x

theorem MS.put {w : World} {B n b : Nat} {f : Key → Option ByteArray} (h : MS w B n (some b) f) (hn : n < maxLen) {s v : ByteArray} (hs : s.size ≤ maxLen) (hv : v.size ≤ maxLen) :
    ∃ w', (Instr.mapUpdate 38 (.map (some b)) (.string s) (.string v)).run Try.prog w = .ok () w' ∧ MS w' B (n + 1) (some b) (upd f s.data.toList (some v)) ∧ w.grownBy w' (some b) := by
  have hkey := keyOf_string_mk (P := Try.prog) (k := 9) Try.underlying9 hs
  rcases h with ⟨h0, _⟩ | ⟨b', D, he, hB, hown, hhas, hat⟩
  · cases h0
  · cases he
    obtain ⟨w', hrun, hown', hg⟩ := hown.update law Try.underlying38 hn hkey (plainElem_string (e := 9) Try.underlying9 hv)
    refine ⟨w', hrun, .inr ⟨b, _, rfl, hB, hown', fun k => ?_, fun k u hu => ?_⟩, hg⟩
    · unfold upd
      by_cases e : k = s.data.toList
      · subst e
        rw [if_pos rfl, Maps.has_put_same (k := .string s.data.toList) hown.isMap trivial]; rfl
      · rw [if_neg e, Maps.has_put_other (by simpa using e)]
        exact hhas k
    · unfold upd at hu
      by_cases e : k = s.data.toList
      · subst e
        rw [if_pos rfl] at hu
        cases hu
        rw [Maps.atKey_put_same (k := .string s.data.toList) hown.isMap trivial]
      · rw [if_neg e] at hu
        rw [Maps.atKey_put_other (by simpa using e)]
        exact hat k u hu

theorem MS.del {w : World} {B n : Nat} {mv : Option Nat} {f : Key → Option ByteArray} (h : MS w B n mv f) {s : ByteArray} (hs : s.size ≤ maxLen) (ty : TypeId) :
    ∃ w', (Builtin.delete_ #[38, 9] ty #[.map mv, .string s]).run Try.prog w = .ok (.tuple #[]) w' ∧ MS w' B n mv (upd f s.data.toList none) ∧ w.grownBy w' mv := by
  have hkey := keyOf_string_mk (P := Try.prog) (k := 9) Try.underlying9 hs
  rcases h with ⟨rfl, hf⟩ | ⟨b, D, rfl, hB, hown, hhas, hat⟩
  · exact ⟨w, Maps.drop_nil law Try.underlying38 hkey ty, .inl ⟨rfl, fun k => by unfold upd; split <;> simp [hf]⟩, ⟨rfl, rfl, rfl, Nat.le_refl _, fun _ _ _ => rfl⟩⟩
  · obtain ⟨w', hrun, hown', ht⟩ := hown.drop law Try.underlying38 hkey ty
    refine ⟨w', hrun, .inr ⟨b, _, rfl, hB, hown', fun k => ?_, fun k u hu => ?_⟩, ht.grown⟩
    · unfold upd
      by_cases e : k = s.data.toList
      · subst e
        rw [if_pos rfl, Maps.has_del_same]; rfl
      · rw [if_neg e, Maps.has_del_other (by simpa using e)]
        exact hhas k
    · unfold upd at hu
      by_cases e : k = s.data.toList
      · subst e
        rw [if_pos rfl] at hu
        cases hu
      · rw [if_neg e] at hu
        rw [Maps.atKey_del_other (by simpa using e)]
        exact hat k u hu

theorem MD.put {w : World} {B n b : Nat} (h : MD w B n (some b)) (hn : n < maxLen) {s : ByteArray} (hs : s.size ≤ maxLen) :
    ∃ w', (Instr.mapUpdate 39 (.map (some b)) (.string s) (.bool true)).run Try.prog w = .ok () w' ∧ MD w' B (n + 1) (some b) ∧ w.grownBy w' (some b) := by
  have hkey := keyOf_string_mk (P := Try.prog) (k := 9) Try.underlying9 hs
  rcases h with h0 | ⟨b', D, he, hB, hown⟩
  · cases h0
  · cases he
    obtain ⟨w', hrun, hown', hg⟩ := hown.update law Try.underlying39 hn hkey (plainElem_bool (e := 4) Try.underlying4 true)
    exact ⟨w', hrun, .inr ⟨b, _, rfl, hB, hown'⟩, hg⟩

theorem MS.kept {w w' : World} {B n : Nat} {mv row : Option Nat} {f : Key → Option ByteArray} (h : MS w B n mv f) (hg : w.grownBy w' row) (hne : mv = none ∨ mv ≠ row) : MS w' B n mv f := by
  rcases h with h0 | ⟨b, D, rfl, hB, hown, h1, h2⟩
  · exact .inl h0
  · exact .inr ⟨b, D, rfl, hB, hown.kept hg (by simpa using hne), h1, h2⟩

theorem MD.kept {w w' : World} {B n : Nat} {mv row : Option Nat} (h : MD w B n mv) (hg : w.grownBy w' row) (hne : mv = none ∨ mv ≠ row) : MD w' B n mv := by
  rcases h with h0 | ⟨b, D, rfl, hB, hown⟩
  · exact .inl h0
  · exact .inr ⟨b, D, rfl, hB, hown.kept hg (by simpa using hne)⟩

theorem MS.mono {w : World} {B n n' : Nat} {mv : Option Nat} {f : Key → Option ByteArray} (h : MS w B n mv f) (hn : n ≤ n') : MS w B n' mv f := by
  rcases h with h0 | ⟨b, D, rfl, hB, hown, h1, h2⟩
  · exact .inl h0
  · exact .inr ⟨b, D, rfl, hB, hown.mono hn, h1, h2⟩
theorem MD.mono {w : World} {B n n' : Nat} {mv : Option Nat} (h : MD w B n mv) (hn : n ≤ n') : MD w B n' mv := by
  rcases h with h0 | ⟨b, D, rfl, hB, hown⟩
  · exact .inl h0
  · exact .inr ⟨b, D, rfl, hB, hown.mono hn⟩

theorem MS.made (w : World) (B : Nat) (hB : B ≤ w.heap.size) (f : Key → Option ByteArray) (hf : ∀ k, f k = none) : MS (w.alloc (.map #[] 0)) B 0 (some w.heap.size) f :=
  .inr ⟨_, _, rfl, hB, World.ownsMap_made w _ _ _, fun k => by rw [hf]; rfl, fun k v h => by rw [hf] at h; cases h⟩
theorem MD.made (w : World) (B : Nat) (hB : B ≤ w.heap.size) : MD (w.alloc (.map #[] 0)) B 0 (some w.heap.size) := .inr ⟨_, _, rfl, hB, World.ownsMap_made w _ _ _⟩

theorem MS.lt {w : World} {B n b : Nat} {f : Key → Option ByteArray} (h : MS w B n (some b) f) : B ≤ b ∧ b < w.heap.size := by
  rcases h with ⟨h0, _⟩ | ⟨b', D, he, hB, hown, _⟩
  · cases h0
  · cases he; exact ⟨hB, hown.lt⟩
theorem MD.lt {w : World} {B n b : Nat} (h : MD w B n (some b)) : B ≤ b ∧ b < w.heap.size := by
  rcases h with h0 | ⟨b', D, he, hB, hown⟩
  · cases h0
  · cases he; exact ⟨hB, hown.lt⟩

end Go.Proofs.Qxb6603588a

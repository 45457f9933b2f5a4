import Derived.Test.Qxb6602011aPlain
/-
  The plain functions of keepFinalBreak and its law: no Go in sight.
-/
namespace Go.Proofs.Qxb6602011a.Plain

def noBar (c : Int) : Bool := c != 124 && c != 62

/-- How the properties stand from k on: none: a '#' stands there; else whether one is open at the end. -/
def opens (z : Nat → Int) : Nat → Nat → Bool → Option Bool
  | 0, _, o => some o
  | f + 1, k, o => if z k = 35 then none else opens z f (k + 1) (if z k = 33 ∨ z k = 38 then true else if isBl (z k) = true ∨ isBr (z k) = true then false else o)

/-- zzB1PlainHeader. -/
def hdr (z : Nat → Int) (n s : Nat) : Option Nat :=
  if scan noBar z n s = n then none
  else if opens z (scan noBar z n s - s) s false = some false then some (scan noBar z n s) else none

def hdrI (z : Nat → Int) (n s : Nat) : Int := match hdr z n s with | some h => (h : Int) | none => -1

theorem hdrI_some {z : Nat → Int} {n s h : Nat} (e : hdr z n s = some h) : hdrI z n s = h := by unfold hdrI; rw [e]
theorem hdrI_none {z : Nat → Int} {n s : Nat} (e : hdr z n s = none) : hdrI z n s = -1 := by unfold hdrI; rw [e]

structure Hdr (z : Nat → Int) (n s h : Nat) : Prop where
  le : s ≤ h
  lt : h < n
  bar : noBar (z h) = false
  bars : ∀ k, s ≤ k → k < h → noBar (z k) = true
  props : opens z (h - s) s false = some false

theorem hdr_facts {z : Nat → Int} {n s h : Nat} (hs : s < n) (e : hdr z n s = some h) : Hdr z n s h := by
  unfold hdr at e
  have h1 := scan_ge noBar z n s
  have h2 : scan noBar z n s ≤ n := scan_le (by omega)
  by_cases c1 : scan noBar z n s = n
  · rw [if_pos c1] at e; cases e
  · rw [if_neg c1] at e
    by_cases c2 : opens z (scan noBar z n s - s) s false = some false
    · rw [if_pos c2] at e
      simp only [Option.some.injEq] at e
      subst e
      exact ⟨h1, by omega, scan_at (by omega), fun k a b => scan_in a b, c2⟩
    · rw [if_neg c2] at e; cases e

theorem opens_step {z : Nat → Int} {h k : Nat} {o r : Bool} (hk : k < h) (e : opens z (h - k) k o = some r) : z k ≠ 35 ∧ opens z (h - (k + 1)) (k + 1) (if z k = 33 ∨ z k = 38 then true else if isBl (z k) = true ∨ isBr (z k) = true then false else o) = some r := by
  rw [show h - k = (h - (k + 1)) + 1 from by omega] at e
  simp only [opens] at e
  by_cases c : z k = 35
  · rw [if_pos c] at e; cases e
  · rw [if_neg c] at e
    exact ⟨c, e⟩

theorem opens_at {z : Nat → Int} {h k : Nat} (hk : k ≤ h) (e : opens z (h - k) k true = some false) : k < h := by
  by_cases c : k = h
  · rw [c, Nat.sub_self] at e; simp [opens] at e
  · omega

/-- At a blank or a break the state does not matter. -/
theorem opens_blank {z : Nat → Int} {h k : Nat} (hk : k < h) (hb : isBl (z k) = true ∨ isBr (z k) = true) (o o' : Bool) : opens z (h - k) k o = opens z (h - k) k o' := by
  rw [show h - k = (h - (k + 1)) + 1 from by omega]
  simp only [opens]
  simp only [if_pos hb]

/-- At a property's head the state does not matter. -/
theorem opens_prop {z : Nat → Int} {h k : Nat} (hk : k < h) (hb : z k = 33 ∨ z k = 38) (o o' : Bool) : opens z (h - k) k o = opens z (h - k) k o' := by
  rw [show h - k = (h - (k + 1)) + 1 from by omega]
  simp only [opens]
  simp only [if_pos hb]

/-- FinalChomping's answer behind the header at h: the indicator's offset, and the indicator or 0. -/
def chomp (z : Nat → Int) (n h : Nat) : Nat × Int :=
  if h + 1 < n ∧ (z (h + 1) = 45 ∨ z (h + 1) = 43) then (h + 1, z (h + 1))
  else if h + 2 < n ∧ (z (h + 2) = 45 ∨ z (h + 2) = 43) then (h + 2, z (h + 2))
  else (h + 1, 0)

def isInd (c : Int) : Prop := c = 45 ∨ c = 43

theorem chomp_hit {z : Nat → Int} {n h i : Nat} (h1 : h + 1 ≤ i) (h2 : i < h + 3) (h3 : i < n) (hno : ∀ k, h + 1 ≤ k → k < i → ¬ isInd (z k)) (hi : isInd (z i)) : chomp z n h = (i, z i) := by
  unfold chomp
  by_cases e : i = h + 1
  · subst e; rw [if_pos ⟨h3, hi⟩]
  · obtain rfl : i = h + 2 := by omega
    rw [if_neg (fun q => hno (h + 1) (by omega) (by omega) q.2), if_pos ⟨h3, hi⟩]

theorem chomp_none {z : Nat → Int} {n h : Nat} (hno : ∀ k, h + 1 ≤ k → k < h + 3 → k < n → ¬ isInd (z k)) : chomp z n h = (h + 1, 0) := by
  unfold chomp
  rw [if_neg (fun q => hno (h + 1) (by omega) (by omega) q.1 q.2), if_neg (fun q => hno (h + 2) (by omega) (by omega) q.1 q.2)]

end Go.Proofs.Qxb6602011a.Plain

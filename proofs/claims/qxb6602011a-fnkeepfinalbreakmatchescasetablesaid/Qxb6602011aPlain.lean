/-
  The plain functions of the framelet laws, and their laws: no Go in sight.
  'z k': the byte at offset k; 'n': the text's length.
-/
namespace Go.Proofs.Qxb6602011a.Plain

def isBl (c : Int) : Bool := c == 32 || c == 9
def isBr (c : Int) : Bool := c == 10 || c == 13
def nBr (c : Int) : Bool := !(isBr c)

/-- The first offset from i on at which p fails, or the end. -/
def scanF (p : Int → Bool) (z : Nat → Int) (n : Nat) : Nat → Nat → Nat
  | 0, i => i
  | f + 1, i => if i < n ∧ p (z i) = true then scanF p z n f (i + 1) else i

def scan (p : Int → Bool) (z : Nat → Int) (n i : Nat) : Nat := scanF p z n (n - i) i

theorem scan_go {p : Int → Bool} {z : Nat → Int} {n i : Nat} (h : i < n) (hp : p (z i) = true) : scan p z n i = scan p z n (i + 1) := by
  unfold scan
  have e : n - i = (n - (i + 1)) + 1 := by omega
  rw [e, scanF, if_pos ⟨h, hp⟩]

theorem scan_off {p : Int → Bool} {z : Nat → Int} {n i : Nat} (hp : p (z i) = false) : scan p z n i = i := by
  unfold scan
  cases e : n - i with
  | zero => rfl
  | succ f => rw [scanF, if_neg (by simp [hp])]

theorem scan_end {p : Int → Bool} {z : Nat → Int} {n i : Nat} (h : n ≤ i) : scan p z n i = i := by
  unfold scan
  have e : n - i = 0 := by omega
  rw [e]; rfl

theorem scan_spec (p : Int → Bool) (z : Nat → Int) (n : Nat) : ∀ (f i : Nat), n - i = f → i ≤ scan p z n i ∧ (i ≤ n → scan p z n i ≤ n) ∧ (∀ k, i ≤ k → k < scan p z n i → p (z k) = true) ∧ (scan p z n i < n → p (z (scan p z n i)) = false) := by
  intro f
  induction f with
  | zero =>
    intro i hf
    rw [scan_end (by omega)]
    exact ⟨Nat.le_refl _, fun h => h, fun k h1 h2 => by omega, fun h => by omega⟩
  | succ f ih =>
    intro i hf
    by_cases hp : p (z i) = true
    · rw [scan_go (by omega) hp]
      obtain ⟨h1, h2, h3, h4⟩ := ih (i + 1) (by omega)
      refine ⟨by omega, fun _ => h2 (by omega), ?_, h4⟩
      intro k a b
      by_cases e : k = i
      · rw [e]; exact hp
      · exact h3 k (by omega) b
    · have hp' : p (z i) = false := by simpa using hp
      rw [scan_off hp']
      exact ⟨Nat.le_refl _, fun h => h, fun k h1 h2 => by omega, fun _ => hp'⟩

theorem scan_ge (p : Int → Bool) (z : Nat → Int) (n i : Nat) : i ≤ scan p z n i := (scan_spec p z n _ i rfl).1
theorem scan_le {p : Int → Bool} {z : Nat → Int} {n i : Nat} (h : i ≤ n) : scan p z n i ≤ n := (scan_spec p z n _ i rfl).2.1 h
theorem scan_in {p : Int → Bool} {z : Nat → Int} {n i k : Nat} (h : i ≤ k) (h' : k < scan p z n i) : p (z k) = true := (scan_spec p z n _ i rfl).2.2.1 k h h'
theorem scan_at {p : Int → Bool} {z : Nat → Int} {n i : Nat} (h : scan p z n i < n) : p (z (scan p z n i)) = false := (scan_spec p z n _ i rfl).2.2.2 h

theorem scan_mid {p : Int → Bool} {z : Nat → Int} {n : Nat} : ∀ (d i k : Nat), k - i = d → i ≤ k → k ≤ n → (∀ m, i ≤ m → m < k → p (z m) = true) → scan p z n i = scan p z n k := by
  intro d
  induction d with
  | zero => intro i k hd h1 _ _; have : i = k := by omega
            rw [this]
  | succ d ih =>
    intro i k hd h1 h2 h3
    rw [scan_go (by omega) (h3 i (Nat.le_refl _) (by omega))]
    exact ih (i + 1) k (by omega) (by omega) h2 (fun m a b => h3 m (by omega) b)

theorem bl_nbr {c : Int} (h : isBl c = true) : nBr c = true := by
  simp [isBl, nBr, isBr] at *; omega

def skip (z : Nat → Int) (n i : Nat) : Nat := scan isBl z n i
def lineEnd (z : Nat → Int) (n i : Nat) : Nat := scan nBr z n i

def nextLine (z : Nat → Int) (n i : Nat) : Nat :=
  if lineEnd z n i + 1 < n ∧ z (lineEnd z n i) = 13 ∧ z (lineEnd z n i + 1) = 10 then lineEnd z n i + 2 else min (lineEnd z n i + 1) n

theorem lineEnd_ge (z : Nat → Int) (n i : Nat) : i ≤ lineEnd z n i := scan_ge _ _ _ _
theorem lineEnd_le {z : Nat → Int} {n i : Nat} (h : i ≤ n) : lineEnd z n i ≤ n := scan_le h
theorem skip_ge (z : Nat → Int) (n i : Nat) : i ≤ skip z n i := scan_ge _ _ _ _
theorem skip_le {z : Nat → Int} {n i : Nat} (h : i ≤ n) : skip z n i ≤ n := scan_le h

theorem nextLine_gt {z : Nat → Int} {n i : Nat} (h : i < n) : i < nextLine z n i := by
  have := lineEnd_ge z n i
  unfold nextLine; split <;> omega
theorem nextLine_le {z : Nat → Int} {n i : Nat} : nextLine z n i ≤ n := by
  unfold nextLine; split <;> omega

theorem lineEnd_skip {z : Nat → Int} {n i : Nat} (h : i ≤ n) : lineEnd z n (skip z n i) = lineEnd z n i :=
  (scan_mid _ i (skip z n i) rfl (skip_ge z n i) (skip_le h) (fun _ a b => bl_nbr (scan_in a b))).symm

theorem lineEnd_idem (z : Nat → Int) (n i : Nat) : lineEnd z n (lineEnd z n i) = lineEnd z n i := by
  by_cases e : lineEnd z n i < n
  · exact scan_off (scan_at e)
  · exact scan_end (by omega)

theorem nextLine_lineEnd (z : Nat → Int) (n i : Nat) : nextLine z n (lineEnd z n i) = nextLine z n i := by
  unfold nextLine; rw [lineEnd_idem]

theorem br_at {z : Nat → Int} {n i : Nat} (h : lineEnd z n i < n) : isBr (z (lineEnd z n i)) = true := by
  have h2 : nBr (z (lineEnd z n i)) = false := scan_at h
  cases e : isBr (z (lineEnd z n i)) with
  | true => rfl
  | false => simp [nBr, e] at h2

theorem skip_br {z : Nat → Int} {n i : Nat} (h : i < n → isBr (z i) = true) : skip z n i = i := by
  by_cases e : i < n
  · refine scan_off ?_
    have := h e
    simp [isBl, isBr] at *; omega
  · exact scan_end (by omega)

/-- The loop of (part).end over the lines behind the node's own. -/
def endF (z : Nat → Int) (n : Nat) (base : Int) : Nat → Nat → Nat → Nat
  | 0, e, _ => e
  | f + 1, e, i =>
    if i < n then
      if (skip z n i < n ∧ isBr (z (skip z n i)) = true) ∨ skip z n i = n then endF z n base f e (nextLine z n i)
      else if z (skip z n i) ≠ 35 ∨ (skip z n i : Int) - i ≤ base then e
      else endF z n base f (lineEnd z n (skip z n i)) (nextLine z n i)
    else e

theorem endF_fuel (z : Nat → Int) (n : Nat) (base : Int) : ∀ (f g e i : Nat), n ≤ f + i → n ≤ g + i → endF z n base f e i = endF z n base g e i := by
  intro f
  induction f with
  | zero =>
    intro g e i h1 h2
    cases g with
    | zero => rfl
    | succ g => simp only [endF]; rw [if_neg (by omega)]
  | succ f ih =>
    intro g e i h1 h2
    cases g with
    | zero => simp only [endF]; rw [if_neg (by omega)]
    | succ g =>
      simp only [endF]
      by_cases hi : i < n
      · have hn := nextLine_gt (z := z) hi
        rw [if_pos hi, if_pos hi, ih g e (nextLine z n i) (by omega) (by omega), ih g (lineEnd z n (skip z n i)) (nextLine z n i) (by omega) (by omega)]
      · rw [if_neg hi, if_neg hi]

def endL (z : Nat → Int) (n : Nat) (base : Int) (e i : Nat) : Nat := endF z n base n e i

theorem endL_eq (z : Nat → Int) (n : Nat) (base : Int) (e i : Nat) : endL z n base e i =
    if i < n then
      if (skip z n i < n ∧ isBr (z (skip z n i)) = true) ∨ skip z n i = n then endL z n base e (nextLine z n i)
      else if z (skip z n i) ≠ 35 ∨ (skip z n i : Int) - i ≤ base then e
      else endL z n base (lineEnd z n (skip z n i)) (nextLine z n i)
    else e := by
  unfold endL
  rw [endF_fuel z n base n (n + 1) e i (by omega) (by omega)]
  rfl

theorem endL_end {z : Nat → Int} {n : Nat} {base : Int} {e i : Nat} (h : n ≤ i) : endL z n base e i = e := by
  rw [endL_eq, if_neg (by omega)]
theorem endL_blank {z : Nat → Int} {n : Nat} {base : Int} {e i : Nat} (h : i < n) (hb : (skip z n i < n ∧ isBr (z (skip z n i)) = true) ∨ skip z n i = n) : endL z n base e i = endL z n base e (nextLine z n i) := by
  rw [endL_eq, if_pos h, if_pos hb]
theorem endL_stop {z : Nat → Int} {n : Nat} {base : Int} {e i : Nat} (h : i < n) (hb : ¬ ((skip z n i < n ∧ isBr (z (skip z n i)) = true) ∨ skip z n i = n)) (hs : z (skip z n i) ≠ 35 ∨ (skip z n i : Int) - i ≤ base) : endL z n base e i = e := by
  rw [endL_eq, if_pos h, if_neg hb, if_pos hs]
theorem endL_note {z : Nat → Int} {n : Nat} {base : Int} {e i : Nat} (h : i < n) (hb : ¬ ((skip z n i < n ∧ isBr (z (skip z n i)) = true) ∨ skip z n i = n)) (hs : ¬ (z (skip z n i) ≠ 35 ∨ (skip z n i : Int) - i ≤ base)) : endL z n base e i = endL z n base (lineEnd z n (skip z n i)) (nextLine z n i) := by
  rw [endL_eq, if_pos h, if_neg hb, if_neg hs]

/-- (part).end. -/
def partEnd (z : Nat → Int) (n : Nat) (base : Int) (e : Nat) : Nat :=
  if skip z n e < n ∧ z (skip z n e) = 35 then endL z n base (lineEnd z n (skip z n e)) (nextLine z n (lineEnd z n (skip z n e)))
  else if skip z n e < n ∧ isBr (z (skip z n e)) = false then e
  else endL z n base e (nextLine z n e)

/-- From line start i on: nothing is found, whatever the end so far; or what is found ends a line, and nothing is found behind it. -/
theorem endL_parts (z : Nat → Int) (n : Nat) (base : Int) : ∀ (d i : Nat), n - i = d → i ≤ n → ∀ e,
    (endL z n base e i = e ∧ ∀ e', endL z n base e' i = e') ∨
    (i ≤ endL z n base e i ∧ endL z n base e i ≤ n ∧ (endL z n base e i < n → isBr (z (endL z n base e i)) = true) ∧ ∀ e', endL z n base e' (nextLine z n (endL z n base e i)) = e') := by
  intro d
  induction d using Nat.strongRecOn with
  | ind d ih =>
    intro i hd hin e
    by_cases hi : i < n
    · have hn := nextLine_gt (z := z) hi
      have hn' := nextLine_le (z := z) (n := n) (i := i)
      by_cases hb : (skip z n i < n ∧ isBr (z (skip z n i)) = true) ∨ skip z n i = n
      · rcases ih (n - nextLine z n i) (by omega) (nextLine z n i) rfl hn' e with ⟨h1, h2⟩ | ⟨h1, h2, h3, h4⟩
        · left
          rw [endL_blank hi hb]
          exact ⟨h1, fun e' => by rw [endL_blank hi hb]; exact h2 e'⟩
        · right
          rw [endL_blank hi hb]
          exact ⟨by omega, h2, h3, h4⟩
      · by_cases hs : z (skip z n i) ≠ 35 ∨ (skip z n i : Int) - i ≤ base
        · left
          exact ⟨endL_stop hi hb hs, fun e' => endL_stop hi hb hs⟩
        · right
          have hj := skip_ge z n i
          have hj' := skip_le (z := z) hin
          have hl := lineEnd_ge z n (skip z n i)
          rw [endL_note hi hb hs]
          rcases ih (n - nextLine z n i) (by omega) (nextLine z n i) rfl hn' (lineEnd z n (skip z n i)) with ⟨h1, h2⟩ | ⟨h1, h2, h3, h4⟩
          · rw [h1]
            refine ⟨by omega, lineEnd_le hj', br_at, fun e' => ?_⟩
            rw [nextLine_lineEnd]
            have : nextLine z n (skip z n i) = nextLine z n i := by
              unfold nextLine; rw [lineEnd_skip hin]
            rw [this]
            exact h2 e'
          · exact ⟨by omega, h2, h3, h4⟩
    · left
      exact ⟨endL_end (by omega), fun e' => endL_end (by omega)⟩

theorem partEnd_of_br {z : Nat → Int} {n : Nat} {base : Int} {r : Nat} (h : r < n → isBr (z r) = true) (h2 : ∀ e', endL z n base e' (nextLine z n r) = e') : partEnd z n base r = r := by
  have hs := skip_br h
  unfold partEnd
  rw [hs]
  by_cases e : r < n
  · have hb := h e
    rw [if_neg, if_neg]
    · exact h2 r
    · simp [hb]
    · rintro ⟨_, q⟩
      rw [q] at hb
      simp [isBr] at hb
  · rw [if_neg (by omega), if_neg (by omega)]
    exact h2 r

theorem partEnd_facts (z : Nat → Int) (n : Nat) (base : Int) (e : Nat) (h : e ≤ n) : e ≤ partEnd z n base e ∧ partEnd z n base e ≤ n ∧ partEnd z n base (partEnd z n base e) = partEnd z n base e := by
  by_cases c1 : skip z n e < n ∧ z (skip z n e) = 35
  · have hs := skip_ge z n e
    have hl := lineEnd_ge z n (skip z n e)
    have hl' := lineEnd_le (z := z) (skip_le (z := z) h)
    have e1 : partEnd z n base e = endL z n base (lineEnd z n (skip z n e)) (nextLine z n (lineEnd z n (skip z n e))) := by unfold partEnd; rw [if_pos c1]
    have hnl : n ≤ lineEnd z n (skip z n e) ∨ lineEnd z n (skip z n e) < nextLine z n (lineEnd z n (skip z n e)) := by
      by_cases q : lineEnd z n (skip z n e) < n
      · right; exact nextLine_gt q
      · left; omega
    rcases endL_parts z n base _ (nextLine z n (lineEnd z n (skip z n e))) rfl nextLine_le (lineEnd z n (skip z n e)) with ⟨h1, h2⟩ | ⟨h1, h2, h3, h4⟩
    · rw [e1, h1]
      exact ⟨by omega, hl', partEnd_of_br br_at h2⟩
    · rw [e1]
      refine ⟨?_, h2, partEnd_of_br h3 h4⟩
      have := nextLine_le (z := z) (n := n) (i := lineEnd z n (skip z n e))
      rcases hnl with q | q
      · have hx : nextLine z n (lineEnd z n (skip z n e)) = n := by
          have hq : lineEnd z n (skip z n e) = n := by omega
          rw [hq]
          unfold nextLine
          have : lineEnd z n n = n := scan_end (Nat.le_refl _)
          rw [this, if_neg (by omega)]; omega
        omega
      · omega
  · by_cases c2 : skip z n e < n ∧ isBr (z (skip z n e)) = false
    · have e1 : partEnd z n base e = e := by unfold partEnd; rw [if_neg c1, if_pos c2]
      rw [e1, e1]
      exact ⟨Nat.le_refl _, h, rfl⟩
    · have e1 : partEnd z n base e = endL z n base e (nextLine z n e) := by unfold partEnd; rw [if_neg c1, if_neg c2]
      rcases endL_parts z n base _ (nextLine z n e) rfl nextLine_le e with ⟨h1, h2⟩ | ⟨h1, h2, h3, h4⟩
      · have e2 : partEnd z n base e = e := by rw [e1, h1]
        rw [e2, e2]
        exact ⟨Nat.le_refl _, h, rfl⟩
      · rw [e1]
        refine ⟨?_, h2, partEnd_of_br h3 h4⟩
        by_cases q : e < n
        · have := nextLine_gt (z := z) q; omega
        · have hq : e = n := by omega
          subst hq
          have : nextLine z e e = e := by
            unfold nextLine
            have : lineEnd z e e = e := scan_end (Nat.le_refl _)
            rw [this, if_neg (by omega)]; omega
          omega

end Go.Proofs.Qxb6602011a.Plain

import Derived.Test.Qxb6602011aPlain
/-
  The plain law of zzB1EndModel: no Go in sight. 'st j': where line j begins; 'L': how many lines.
-/
namespace Go.Proofs.Qxb6602011a.Plain

/-- The lines from e on, as the model cuts them. -/
structure Lines (z : Nat → Int) (n e : Nat) (st : Nat → Nat) (L : Nat) : Prop where
  first : st 0 = e
  pos : 0 < L
  next : ∀ j, j + 1 < L → st (j + 1) = nextLine z n (st j) ∧ st (j + 1) < n
  last : nextLine z n (st (L - 1)) = n

theorem skip_fnb {z : Nat → Int} {n s : Nat} (h : s ≤ n) : scan isBl z (lineEnd z n s) s = skip z n s := by
  have h1 := scan_ge isBl z (lineEnd z n s) s
  have hl := lineEnd_ge z n s
  have hl2 := lineEnd_le (z := z) h
  have h2 : scan isBl z (lineEnd z n s) s ≤ lineEnd z n s := scan_le hl
  have e : skip z n s = skip z n (scan isBl z (lineEnd z n s) s) := scan_mid _ s _ rfl h1 (by omega) (fun m a b => scan_in a b)
  by_cases hlt : scan isBl z (lineEnd z n s) s < lineEnd z n s
  · rw [e]; exact (scan_off (scan_at hlt)).symm
  · have heq : scan isBl z (lineEnd z n s) s = lineEnd z n s := by omega
    rw [e, heq]
    exact (skip_br (fun hn => br_at hn)).symm

theorem skip_le_end {z : Nat → Int} {n s : Nat} (h : s ≤ n) : skip z n s ≤ lineEnd z n s := by
  rw [← skip_fnb h]; exact scan_le (lineEnd_ge z n s)

/-- A line with nothing but blanks, in the two ways of saying it. -/
theorem blank_iff {z : Nat → Int} {n s : Nat} (h : s ≤ n) : ((skip z n s < n ∧ isBr (z (skip z n s)) = true) ∨ skip z n s = n) ↔ ¬ skip z n s < lineEnd z n s := by
  have h1 := skip_le_end (z := z) h
  have h2 := lineEnd_le (z := z) h
  constructor
  · rintro (⟨a, b⟩ | c) hlt
    · have : nBr (z (skip z n s)) = true := scan_in (skip_ge z n s) hlt
      simp [nBr, b] at this
    · omega
  · intro hge
    have heq : skip z n s = lineEnd z n s := by omega
    by_cases hn : skip z n s < n
    · left
      refine ⟨hn, ?_⟩
      rw [heq]
      exact br_at (by omega)
    · right; omega

/-- From line j on (j counts from 1), with e as the end so far. -/
def fromLine (z : Nat → Int) (n : Nat) (base : Int) (st : Nat → Nat) (j e : Nat) : Nat := endL z n base e (nextLine z n (st (j - 1)))

def stopAt (z : Nat → Int) (n : Nat) (base : Int) (s : Nat) : Prop := z (skip z n s) ≠ 35 ∨ (skip z n s : Int) - s ≤ base

section
variable {z : Nat → Int} {n e : Nat} {base : Int} {st : Nat → Nat} {L : Nat}

theorem Lines.lt (h : Lines z n e st L) (j : Nat) (h1 : 1 ≤ j) (h2 : j < L) : st j < n ∧ nextLine z n (st (j - 1)) = st j := by
  have := h.next (j - 1) (by omega)
  rw [show j - 1 + 1 = j from by omega] at this
  exact ⟨this.2, this.1.symm⟩

theorem Lines.le (h : Lines z n e st L) (he : e ≤ n) (j : Nat) (h2 : j < L) : st j ≤ n := by
  cases j with
  | zero => rw [h.first]; exact he
  | succ j => have := h.next j h2; omega

theorem fromLine_end (h : Lines z n e st L) (e' : Nat) : fromLine z n base st L e' = e' := by
  unfold fromLine; rw [h.last]; exact endL_end (Nat.le_refl _)

theorem fromLine_blank (h : Lines z n e st L) {j : Nat} (h1 : 1 ≤ j) (h2 : j < L) (hb : ¬ skip z n (st j) < lineEnd z n (st j)) (e' : Nat) : fromLine z n base st j e' = fromLine z n base st (j + 1) e' := by
  obtain ⟨a, b⟩ := h.lt j h1 h2
  unfold fromLine
  rw [b, endL_blank a ((blank_iff (by omega)).2 hb)]
  rfl

theorem fromLine_stop (h : Lines z n e st L) {j : Nat} (h1 : 1 ≤ j) (h2 : j < L) (hb : skip z n (st j) < lineEnd z n (st j)) (hs : stopAt z n base (st j)) (e' : Nat) : fromLine z n base st j e' = e' := by
  obtain ⟨a, b⟩ := h.lt j h1 h2
  unfold fromLine
  rw [b, endL_stop a (by rw [blank_iff (by omega)]; simpa using hb) hs]

theorem fromLine_note (h : Lines z n e st L) {j : Nat} (h1 : 1 ≤ j) (h2 : j < L) (hb : skip z n (st j) < lineEnd z n (st j)) (hs : ¬ stopAt z n base (st j)) (e' : Nat) : fromLine z n base st j e' = fromLine z n base st (j + 1) (lineEnd z n (st j)) := by
  obtain ⟨a, b⟩ := h.lt j h1 h2
  unfold fromLine
  rw [b, endL_note a (by rw [blank_iff (by omega)]; simpa using hb) hs, lineEnd_skip (by omega)]
  rfl

/-- Ahead of line m no line stops: what line m comes to is what line 1 comes to. -/
theorem fromLine_down (h : Lines z n e st L) {r : Nat} : ∀ (d m : Nat), m - 1 = d → 1 ≤ m → m ≤ L → (∀ j, 1 ≤ j → j < m → skip z n (st j) < lineEnd z n (st j) → ¬ stopAt z n base (st j)) → (∀ e', fromLine z n base st m e' = r) → ∀ e', fromLine z n base st 1 e' = r := by
  intro d
  induction d with
  | zero => intro m hd h1 _ _ hr; rw [show (1 : Nat) = m from by omega]; exact hr
  | succ d ih =>
    intro m hd h1 hL hns hr
    refine ih (m - 1) (by omega) (by omega) (by omega) (fun j a b => hns j a (by omega)) (fun e' => ?_)
    have hm : m - 1 + 1 = m := by omega
    by_cases hb : skip z n (st (m - 1)) < lineEnd z n (st (m - 1))
    · rw [fromLine_note h (by omega) (by omega) hb (hns (m - 1) (by omega) (by omega) hb), hm]; exact hr _
    · rw [fromLine_blank h (by omega) (by omega) hb, hm]; exact hr _

/-- The answers, off the lines. -/
theorem partEnd_other (h : Lines z n e st L) (he : e ≤ n) (hb : skip z n (st 0) < lineEnd z n (st 0)) (h35 : z (skip z n (st 0)) ≠ 35) : partEnd z n base e = e := by
  rw [h.first] at hb h35
  have h2 := lineEnd_le (z := z) he
  have hbr : isBr (z (skip z n e)) = false := by
    have : nBr (z (skip z n e)) = true := scan_in (skip_ge z n e) hb
    simpa [nBr] using this
  unfold partEnd
  rw [if_neg (by intro q; exact h35 q.2), if_pos ⟨by omega, hbr⟩]

theorem partEnd_lines (h : Lines z n e st L) (he : e ≤ n) (h0 : ¬ (skip z n (st 0) < lineEnd z n (st 0) ∧ z (skip z n (st 0)) ≠ 35)) :
    partEnd z n base e = fromLine z n base st 1 (if skip z n (st 0) < lineEnd z n (st 0) then lineEnd z n (st 0) else e) := by
  unfold fromLine
  rw [show (1 : Nat) - 1 = 0 from rfl]
  rw [h.first] at h0 ⊢
  have h2 := lineEnd_le (z := z) he
  by_cases hb : skip z n e < lineEnd z n e
  · have h35 : z (skip z n e) = 35 := Decidable.byContradiction fun q => h0 ⟨hb, q⟩
    rw [if_pos hb]
    unfold partEnd
    rw [if_pos ⟨by omega, h35⟩, lineEnd_skip he, nextLine_lineEnd]
  · have hx := (blank_iff he).2 hb
    rw [if_neg hb]
    unfold partEnd
    rw [if_neg, if_neg]
    · rcases hx with ⟨a, b⟩ | c
      · simp [b]
      · omega
    · rcases hx with ⟨a, b⟩ | c
      · rintro ⟨_, q⟩
        rw [q] at b
        simp [isBr] at b
      · omega
end

/-- While the lines are cut: 'T' the starts so far, the one at hand the last. -/
structure Part (z : Nat → Int) (n e : Nat) (T : List Nat) : Prop where
  first : T.getD 0 0 = e
  pos : 0 < T.length
  next : ∀ j, j + 1 < T.length → T.getD (j + 1) 0 = nextLine z n (T.getD j 0) ∧ T.getD (j + 1) 0 < n

theorem getD_left {l m : List Nat} {j : Nat} (h : j < l.length) : (l ++ m).getD j 0 = l.getD j 0 := by
  simp only [List.getD, List.getElem?_append_left h]

theorem Part.start (z : Nat → Int) (n e : Nat) : Part z n e ([] ++ [e]) := ⟨rfl, by simp, fun j h => by simp at h⟩

theorem Part.more {z : Nat → Int} {n e : Nat} {ss : List Nat} {p : Nat} (h : Part z n e (ss ++ [p])) (hlt : nextLine z n p < n) : Part z n e ((ss ++ [p]) ++ [nextLine z n p]) := by
  have hlen : (ss ++ [p]).length = ss.length + 1 := by simp
  have hl : (ss ++ [p]).getD ss.length 0 = p := by simp [List.getD]
  refine ⟨?_, by simp, ?_⟩
  · rw [← h.first, getD_left h.pos]
  · intro j hj
    rw [List.length_append, hlen, List.length_singleton] at hj
    by_cases hlast : j = ss.length
    · subst hlast
      have e1 : ((ss ++ [p]) ++ [nextLine z n p]).getD (ss.length + 1) 0 = nextLine z n p := by simp [List.getD]
      have e2 : ((ss ++ [p]) ++ [nextLine z n p]).getD ss.length 0 = (ss ++ [p]).getD ss.length 0 := getD_left (by omega)
      rw [e1, e2, hl]
      exact ⟨rfl, hlt⟩
    · have e1 : ((ss ++ [p]) ++ [nextLine z n p]).getD (j + 1) 0 = (ss ++ [p]).getD (j + 1) 0 := getD_left (by omega)
      have e2 : ((ss ++ [p]) ++ [nextLine z n p]).getD j 0 = (ss ++ [p]).getD j 0 := getD_left (by omega)
      rw [e1, e2]
      exact h.next j (by omega)

theorem Part.done {z : Nat → Int} {n e : Nat} {ss : List Nat} {p : Nat} (h : Part z n e (ss ++ [p])) (hn : nextLine z n p = n) : Lines z n e (fun j => (ss ++ [p]).getD j 0) (ss ++ [p]).length := by
  refine ⟨h.first, h.pos, h.next, ?_⟩
  have hl : (ss ++ [p]).getD ss.length 0 = p := by simp [List.getD]
  simp only [List.length_append, List.length_singleton, Nat.add_sub_cancel]
  rw [hl]; exact hn

theorem nextLine_as {z : Nat → Int} {n p : Nat} (hlt : lineEnd z n p < n) : nextLine z n p = if lineEnd z n p + 1 < n ∧ z (lineEnd z n p) = 13 ∧ z (lineEnd z n p + 1) = 10 then lineEnd z n p + 2 else lineEnd z n p + 1 := by
  unfold nextLine
  split
  · rfl
  · omega

theorem nextLine_full {z : Nat → Int} {n p : Nat} (h : lineEnd z n p = n) : nextLine z n p = n := by
  unfold nextLine
  rw [h, if_neg (by omega)]; omega

end Go.Proofs.Qxb6602011a.Plain

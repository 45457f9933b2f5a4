import Derived.Test.Qxb6602011aPlain
/-
  The plain laws of appendLines: no Go in sight.
-/
namespace Go.Proofs.Qxb6602011a.Plain

/-- zzB1AppendNormalised from offset i on: every CR LF and every lone CR is written as LF. -/
def normF (z : Nat → Int) (n : Nat) : Nat → Nat → List Int
  | 0, _ => []
  | f + 1, i =>
    if i < n then
      if z i = 13 then
        if i + 1 < n ∧ z (i + 1) = 10 then 10 :: normF z n f (i + 2) else 10 :: normF z n f (i + 1)
      else z i :: normF z n f (i + 1)
    else []

theorem normF_fuel (z : Nat → Int) (n : Nat) : ∀ (f g i : Nat), n ≤ f + i → n ≤ g + i → normF z n f i = normF z n g i := by
  intro f
  induction f with
  | zero =>
    intro g i h1 h2
    cases g with
    | zero => rfl
    | succ g => simp only [normF]; rw [if_neg (by omega)]
  | succ f ih =>
    intro g i h1 h2
    cases g with
    | zero => simp only [normF]; rw [if_neg (by omega)]
    | succ g =>
      simp only [normF]
      rw [ih g (i + 1) (by omega) (by omega), ih g (i + 2) (by omega) (by omega)]

def norm (z : Nat → Int) (n i : Nat) : List Int := normF z n n i

theorem norm_eq (z : Nat → Int) (n i : Nat) : norm z n i =
    if i < n then
      if z i = 13 then
        if i + 1 < n ∧ z (i + 1) = 10 then 10 :: norm z n (i + 2) else 10 :: norm z n (i + 1)
      else z i :: norm z n (i + 1)
    else [] := by
  unfold norm
  rw [normF_fuel z n n (n + 1) i (by omega) (by omega)]
  rfl

theorem norm_end {z : Nat → Int} {n i : Nat} (h : n ≤ i) : norm z n i = [] := by rw [norm_eq, if_neg (by omega)]
theorem norm_crlf {z : Nat → Int} {n i : Nat} (h : i < n) (h1 : z i = 13) (h2 : i + 1 < n) (h3 : z (i + 1) = 10) : norm z n i = 10 :: norm z n (i + 2) := by
  rw [norm_eq, if_pos h, if_pos h1, if_pos ⟨h2, h3⟩]
theorem norm_cr {z : Nat → Int} {n i : Nat} (h : i < n) (h1 : z i = 13) (h2 : ¬ (i + 1 < n ∧ z (i + 1) = 10)) : norm z n i = 10 :: norm z n (i + 1) := by
  rw [norm_eq, if_pos h, if_pos h1, if_neg h2]
theorem norm_other {z : Nat → Int} {n i : Nat} (h : i < n) (h1 : z i ≠ 13) : norm z n i = z i :: norm z n (i + 1) := by
  rw [norm_eq, if_pos h, if_neg h1]

theorem norm_length (z : Nat → Int) (n : Nat) : ∀ (d i : Nat), n - i = d → (norm z n i).length ≤ d := by
  intro d
  induction d using Nat.strongRecOn with
  | ind d ih =>
    intro i hd
    by_cases h : i < n
    · have h1 := ih (n - (i + 1)) (by omega) (i + 1) rfl
      have h2 := ih (n - (i + 2)) (by omega) (i + 2) rfl
      rw [norm_eq, if_pos h]
      split
      · split <;> simp only [List.length_cons] <;> omega
      · simp only [List.length_cons]; omega
    · rw [norm_end (by omega)]; simp

def from' (z : Nat → Int) (q : Nat) : Nat → Int := fun k => z (q + k)

theorem norm_shift (z : Nat → Int) (n q : Nat) : ∀ (d i : Nat), (n - q) - i = d → q ≤ n → norm (from' z q) (n - q) i = norm z n (q + i) := by
  intro d
  induction d using Nat.strongRecOn with
  | ind d ih =>
    intro i hd hq
    by_cases h : i < n - q
    · have h1 := ih ((n - q) - (i + 1)) (by omega) (i + 1) rfl hq
      have h2 := ih ((n - q) - (i + 2)) (by omega) (i + 2) rfl hq
      rw [norm_eq, norm_eq z n (q + i), if_pos h, if_pos (by omega : q + i < n), h1, h2]
      have e : (i + 1 < n - q ∧ from' z q (i + 1) = 10) ↔ (q + i + 1 < n ∧ z (q + i + 1) = 10) := by
        unfold from'
        rw [show q + (i + 1) = q + i + 1 from by omega]
        constructor
        · rintro ⟨a, b⟩; exact ⟨by omega, b⟩
        · rintro ⟨a, b⟩; exact ⟨by omega, b⟩
      simp only [e]
      rfl
    · rw [norm_end (by omega), norm_end (by omega)]

/-- The bytes from i up to j. -/
def seg (z : Nat → Int) (i j : Nat) : List Int := (List.range (j - i)).map (from' z i)

theorem seg_cons {z : Nat → Int} {i j : Nat} (h : i < j) : seg z i j = z i :: seg z (i + 1) j := by
  unfold seg
  rw [show j - i = (j - (i + 1)) + 1 from by omega, List.range_succ_eq_map]
  simp only [List.map_cons, List.map_map]
  have e : (List.range (j - (i + 1))).map (from' z i ∘ Nat.succ) = (List.range (j - (i + 1))).map (from' z (i + 1)) := by
    apply List.map_congr_left
    intro k _
    show z (i + (k + 1)) = z (i + 1 + k)
    rw [show i + (k + 1) = i + 1 + k from by omega]
  rw [e]; rfl

theorem seg_nil {z : Nat → Int} {i j : Nat} (h : j ≤ i) : seg z i j = [] := by
  unfold seg; rw [show j - i = 0 from by omega]; rfl

theorem seg_length (z : Nat → Int) (i j : Nat) : (seg z i j).length = j - i := by simp [seg]

theorem seg_append {z : Nat → Int} : ∀ (d i j k : Nat), j - i = d → i ≤ j → j ≤ k → seg z i k = seg z i j ++ seg z j k := by
  intro d
  induction d with
  | zero => intro i j k hd h1 h2; rw [seg_nil (by omega : j ≤ i), show i = j from by omega]; rfl
  | succ d ih =>
    intro i j k hd h1 h2
    rw [seg_cons (by omega : i < k), seg_cons (by omega : i < j), ih (i + 1) j k (by omega) (by omega) h2]; rfl

/-- Up to the next break every byte is copied. -/
theorem norm_line {z : Nat → Int} {n : Nat} : ∀ (d i j : Nat), j - i = d → i ≤ j → j ≤ n → (∀ k, i ≤ k → k < j → nBr (z k) = true) → norm z n i = seg z i j ++ norm z n j := by
  intro d
  induction d with
  | zero => intro i j hd h1 _ _; rw [show i = j from by omega, seg_nil (Nat.le_refl _)]; rfl
  | succ d ih =>
    intro i j hd h1 h2 h3
    have hi := h3 i (Nat.le_refl _) (by omega)
    have hz : z i ≠ 13 := by simp [nBr, isBr] at hi; omega
    rw [norm_other (by omega) hz, seg_cons (by omega : i < j), ih (i + 1) j (by omega) (by omega) h2 (fun k a b => h3 k (by omega) b)]
    rfl

/-- appendLines with shift 0 and no floor: what it appends. -/
def linesF : Nat → (Nat → Int) → Nat → List Int
  | 0, _, _ => []
  | f + 1, z, n => seg z 0 (lineEnd z n 0) ++ 10 :: (if lineEnd z n 0 = n then [] else linesF f (from' z (nextLine z n (lineEnd z n 0))) (n - nextLine z n (lineEnd z n 0)))

theorem linesF_norm : ∀ (n f : Nat) (z : Nat → Int), n < f → linesF f z n = norm z n 0 ++ [10] := by
  intro n
  induction n using Nat.strongRecOn with
  | ind n ih =>
    intro f z hf
    cases f with
    | zero => omega
    | succ f =>
      have hle : lineEnd z n 0 ≤ n := lineEnd_le (Nat.zero_le _)
      simp only [linesF]
      rw [norm_line _ 0 (lineEnd z n 0) rfl (Nat.zero_le _) hle (fun k a b => scan_in a b)]
      by_cases he : lineEnd z n 0 = n
      · rw [if_pos he, he, norm_end (Nat.le_refl _)]; simp
      · have hlt : lineEnd z n 0 < n := by omega
        have hbr := br_at hlt
        have hid := lineEnd_idem z n 0
        have hgt := nextLine_gt (z := z) hlt
        have hnn := nextLine_le (z := z) (n := n) (i := lineEnd z n 0)
        rw [if_neg he, ih _ (by omega) f _ (by omega), norm_shift z n _ _ 0 rfl hnn, Nat.add_zero]
        have hq : norm z n (lineEnd z n 0) = 10 :: norm z n (nextLine z n (lineEnd z n 0)) := by
          unfold nextLine
          rw [hid]
          generalize lineEnd z n 0 = e at *
          by_cases h13 : z e = 13
          · by_cases h2 : e + 1 < n ∧ z (e + 1) = 10
            · rw [if_pos ⟨h2.1, h13, h2.2⟩, norm_crlf hlt h13 h2.1 h2.2]
            · rw [if_neg (by rintro ⟨a, b, c⟩; exact h2 ⟨a, c⟩), norm_cr hlt h13 h2, show min (e + 1) n = e + 1 from by omega]
          · rw [if_neg (by rintro ⟨a, b, c⟩; exact h13 b), norm_other hlt h13, show min (e + 1) n = e + 1 from by omega]
            have : z e = 10 := by simp [isBr] at hbr; omega
            rw [this]
        rw [hq]; simp

def lines (z : Nat → Int) (n : Nat) : List Int := linesF (n + 1) z n
theorem lines_norm (z : Nat → Int) (n : Nat) : lines z n = norm z n 0 ++ [10] := linesF_norm n (n + 1) z (by omega)
theorem lines_length (z : Nat → Int) (n : Nat) : (lines z n).length ≤ n + 1 := by
  rw [lines_norm]
  have := norm_length z n (n - 0) 0 rfl
  simp; omega
theorem lines_last {z : Nat → Int} {n : Nat} (h : lineEnd z n 0 = n) : lines z n = seg z 0 (lineEnd z n 0) ++ [10] := by
  unfold lines; simp only [linesF]; rw [if_pos h]
theorem lines_more {z : Nat → Int} {n : Nat} (h : lineEnd z n 0 ≠ n) : lines z n = seg z 0 (lineEnd z n 0) ++ 10 :: lines (from' z (nextLine z n (lineEnd z n 0))) (n - nextLine z n (lineEnd z n 0)) := by
  have hle : lineEnd z n 0 ≤ n := lineEnd_le (Nat.zero_le _)
  have hgt := nextLine_gt (z := z) (show lineEnd z n 0 < n by omega)
  have h1 : lines z n = seg z 0 (lineEnd z n 0) ++ 10 :: linesF n (from' z (nextLine z n (lineEnd z n 0))) (n - nextLine z n (lineEnd z n 0)) := by
    conv => lhs; unfold lines
    simp only [linesF]; rw [if_neg h]
  rw [h1, linesF_norm _ n _ (by omega), lines_norm]

/-- The spaces at a line's head. -/
def isSp (c : Int) : Bool := c == 32
def spaces (z : Nat → Int) (n i : Nat) : Nat := scan isSp z n i

theorem seg_spaces {z : Nat → Int} : ∀ (d i j : Nat), j - i = d → (∀ k, i ≤ k → k < j → isSp (z k) = true) → seg z i j = List.replicate (j - i) 32 := by
  intro d
  induction d with
  | zero => intro i j hd _; rw [seg_nil (by omega), hd]; rfl
  | succ d ih =>
    intro i j hd h
    have h0 := h i (Nat.le_refl _) (by omega)
    have hz : z i = 32 := by simpa [isSp] using h0
    rw [seg_cons (by omega), ih (i + 1) j (by omega) (fun k a b => h k (by omega) b), hz, show j - i = (j - (i + 1)) + 1 from by omega]
    rfl

end Go.Proofs.Qxb6602011a.Plain

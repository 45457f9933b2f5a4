/-
  The plain laws of the Feistel network and of cycle walking: no Go in sight.
-/
namespace Go.Proofs.Qxb6603512a.Plain

/-- More pigeons than holes. -/
theorem pigeon : ∀ (D : Nat) (f : Nat → Nat), (∀ i, i ≤ D → f i < D) → ∃ i j, i < j ∧ j ≤ D ∧ f i = f j := by
  intro D
  induction D with
  | zero => intro f h; have := h 0 (Nat.le_refl _); omega
  | succ D ih =>
    intro f h
    by_cases hv : ∃ i, i ≤ D ∧ f i = f (D + 1)
    · obtain ⟨i, hi, e⟩ := hv
      exact ⟨i, D + 1, by omega, Nat.le_refl _, e⟩
    · have hne : ∀ i, i ≤ D → f i ≠ f (D + 1) := fun i hi e => hv ⟨i, hi, e⟩
      have hlast := h (D + 1) (Nat.le_refl _)
      obtain ⟨i, j, hij, hj, e⟩ := ih (fun i => if f i = D then f (D + 1) else f i) (by
        intro i hi
        have h1 := h i (by omega)
        have h2 := hne i hi
        show (if f i = D then f (D + 1) else f i) < D
        by_cases c : f i = D
        · rw [if_pos c]; omega
        · rw [if_neg c]; omega)
      refine ⟨i, j, hij, by omega, ?_⟩
      have hi1 := hne i (by omega)
      have hj1 := hne j hj
      by_cases c1 : f i = D <;> by_cases c2 : f j = D
      · omega
      · simp only [if_pos c1, if_neg c2] at e; exact absurd e.symm hj1
      · simp only [if_neg c1, if_pos c2] at e; exact absurd e hi1
      · simp only [if_neg c1, if_neg c2] at e; exact e

def iter (f : Nat → Nat) : Nat → Nat → Nat
  | 0, x => x
  | k + 1, x => f (iter f k x)

theorem iter_lt {f : Nat → Nat} {D : Nat} (hf : ∀ x, x < D → f x < D) {x : Nat} (hx : x < D) : ∀ k, iter f k x < D := by
  intro k
  induction k with
  | zero => exact hx
  | succ k ih => exact hf _ ih

theorem iter_back {f g : Nat → Nat} {D : Nat} (hf : ∀ x, x < D → f x < D) (hg : ∀ x, x < D → g (f x) = x) {x : Nat} (hx : x < D) : ∀ k, g (iter f (k + 1) x) = iter f k x := fun k => hg _ (iter_lt hf hx k)

theorem iter_inj {f g : Nat → Nat} {D : Nat} (hf : ∀ x, x < D → f x < D) (hg : ∀ x, x < D → g (f x) = x) {x : Nat} (hx : x < D) : ∀ i d, iter f i x = iter f (i + d) x → iter f d x = x := by
  intro i
  induction i with
  | zero => intro d e; rw [Nat.zero_add] at e; exact e.symm
  | succ i ih =>
    intro d e
    apply ih d
    have e2 := congrArg g e
    rw [show i + 1 + d = (i + d) + 1 from by omega, iter_back hf hg hx, iter_back hf hg hx] at e2
    exact e2

/-- A bijection's walk from x comes back to x. -/
theorem iter_cycle {f g : Nat → Nat} {D : Nat} (hf : ∀ x, x < D → f x < D) (hg : ∀ x, x < D → g (f x) = x) {x : Nat} (hx : x < D) : ∃ k, 1 ≤ k ∧ k ≤ D ∧ iter f k x = x := by
  obtain ⟨i, j, hij, hj, e⟩ := pigeon D (fun k => iter f k x) (fun i _ => iter_lt hf hx i)
  exact ⟨j - i, by omega, by omega, iter_inj hf hg hx i (j - i) (by rw [show i + (j - i) = j from by omega]; exact e)⟩

theorem least {P : Nat → Prop} : ∀ k, 1 ≤ k → P k → ∃ m, 1 ≤ m ∧ m ≤ k ∧ P m ∧ ∀ j, 1 ≤ j → j < m → ¬ P j := by
  intro k
  induction k using Nat.strongRecOn with
  | ind k ih =>
    intro h1 hk
    by_cases c : ∃ j, 1 ≤ j ∧ j < k ∧ P j
    · obtain ⟨j, a, b, d⟩ := c
      obtain ⟨m, m1, m2, m3, m4⟩ := ih j b a d
      exact ⟨m, m1, by omega, m3, m4⟩
    · exact ⟨k, h1, Nat.le_refl _, hk, fun j a b d => c ⟨j, a, b, d⟩⟩

/-- The first return below n. -/
structure First (f : Nat → Nat) (D n x k : Nat) : Prop where
  one : 1 ≤ k
  le : k ≤ D
  hit : iter f k x < n
  miss : ∀ j, 1 ≤ j → j < k → n ≤ iter f j x

theorem first_exists {f g : Nat → Nat} {D n x : Nat} (hf : ∀ x, x < D → f x < D) (hg : ∀ x, x < D → g (f x) = x) (hn : n ≤ D) (hx : x < n) : ∃ k, First f D n x k := by
  obtain ⟨c, c1, c2, c3⟩ := iter_cycle hf hg (show x < D by omega)
  obtain ⟨m, m1, m2, m3, m4⟩ := least (P := fun k => iter f k x < n) c c1 (by rw [c3]; exact hx)
  exact ⟨m, m1, by omega, m3, fun j a b => Nat.le_of_not_lt (m4 j a b)⟩

/-- Back along the same way: the inverse's first return from f^k x is x, behind k steps. -/
theorem iter_inv {f g : Nat → Nat} {D : Nat} (hf : ∀ x, x < D → f x < D) (hg : ∀ x, x < D → g (f x) = x) {x : Nat} (hx : x < D) : ∀ j k, j ≤ k → iter g j (iter f k x) = iter f (k - j) x := by
  intro j
  induction j with
  | zero => intro k _; rfl
  | succ j ih =>
    intro k h
    show g (iter g j (iter f k x)) = _
    rw [ih k (by omega), show k - j = (k - (j + 1)) + 1 from by omega, iter_back hf hg hx]

theorem first_back {f g : Nat → Nat} {D n x k : Nat} (hf : ∀ x, x < D → f x < D) (hg : ∀ x, x < D → g (f x) = x) (hn : n ≤ D) (hx : x < n) (h : First f D n x k) : First g D n (iter f k x) k ∧ iter g k (iter f k x) = x := by
  have e := iter_inv hf hg (show x < D by omega)
  have e0 : iter g k (iter f k x) = x := by rw [e k k (Nat.le_refl _), Nat.sub_self]; rfl
  refine ⟨⟨h.one, h.le, by rw [e0]; exact hx, fun j a b => ?_⟩, e0⟩
  rw [e j k (by omega)]
  exact h.miss (k - j) (by omega) (by omega)

/-! ### The network -/
section
variable (H : Nat) (F : Nat → Nat → Nat)

/-- A round: (l, r) to (r, l ^ F r k). -/
def rnd (k : Nat) (p : Nat × Nat) : Nat × Nat := (p.2, p.1 ^^^ F p.2 k)
/-- .. and back. -/
def unr (k : Nat) (p : Nat × Nat) : Nat × Nat := (p.2 ^^^ F p.1 k, p.1)

theorem unr_rnd (k : Nat) (p : Nat × Nat) : unr F k (rnd F k p) = p := by
  obtain ⟨l, r⟩ := p
  simp only [rnd, unr]
  rw [Nat.xor_assoc, Nat.xor_self, Nat.xor_zero]
theorem rnd_unr (k : Nat) (p : Nat × Nat) : rnd F k (unr F k p) = p := by
  obtain ⟨l, r⟩ := p
  simp only [rnd, unr]
  rw [Nat.xor_assoc, Nat.xor_self, Nat.xor_zero]

def parts (x : Nat) : Nat × Nat := (x / H, x % H)
def whole (p : Nat × Nat) : Nat := p.1 * H + p.2

def fe (x : Nat) : Nat := whole H (rnd F 3 (rnd F 2 (rnd F 1 (rnd F 0 (parts H x)))))
def fi (x : Nat) : Nat := whole H (unr F 0 (unr F 1 (unr F 2 (unr F 3 (parts H x)))))

def small (p : Nat × Nat) : Prop := p.1 < H ∧ p.2 < H
end

theorem small_rnd {h : Nat} {F : Nat → Nat → Nat} (hF : ∀ r k, F r k < 2 ^ h) (k : Nat) {p : Nat × Nat} (hp : small (2 ^ h) p) : small (2 ^ h) (rnd F k p) :=
  ⟨hp.2, Nat.xor_lt_two_pow hp.1 (hF _ _)⟩
theorem small_unr {h : Nat} {F : Nat → Nat → Nat} (hF : ∀ r k, F r k < 2 ^ h) (k : Nat) {p : Nat × Nat} (hp : small (2 ^ h) p) : small (2 ^ h) (unr F k p) :=
  ⟨Nat.xor_lt_two_pow hp.2 (hF _ _), hp.1⟩

theorem small_parts {H x : Nat} (h0 : 0 < H) (hx : x < H * H) : small H (parts H x) := ⟨Nat.div_lt_of_lt_mul hx, Nat.mod_lt _ h0⟩
theorem whole_lt {H : Nat} {p : Nat × Nat} (hp : small H p) : whole H p < H * H := by
  obtain ⟨a, b⟩ := hp
  unfold whole
  have : (p.1 + 1) * H ≤ H * H := Nat.mul_le_mul_right H a
  rw [Nat.add_mul, Nat.one_mul] at this
  omega
theorem parts_whole {H : Nat} {p : Nat × Nat} (h0 : 0 < H) (hp : small H p) : parts H (whole H p) = p := by
  obtain ⟨l, r⟩ := p
  obtain ⟨a, b⟩ := hp
  simp only at a b
  unfold parts whole
  simp only
  have e1 : (l * H + r) / H = l := by
    rw [Nat.mul_comm, Nat.mul_add_div h0, Nat.div_eq_of_lt b, Nat.add_zero]
  have e2 : (l * H + r) % H = r := by
    rw [Nat.mul_comm, Nat.mul_add_mod, Nat.mod_eq_of_lt b]
  rw [e1, e2]
theorem whole_parts {H : Nat} (x : Nat) : whole H (parts H x) = x := by
  unfold whole parts
  simp only
  rw [Nat.mul_comm]; exact Nat.div_add_mod x H

theorem fe_lt {h : Nat} {F : Nat → Nat → Nat} (hF : ∀ r k, F r k < 2 ^ h) (x : Nat) (hx : x < 2 ^ h * 2 ^ h) : fe (2 ^ h) F x < 2 ^ h * 2 ^ h :=
  whole_lt (small_rnd hF _ (small_rnd hF _ (small_rnd hF _ (small_rnd hF _ (small_parts (Nat.two_pow_pos h) hx)))))
theorem fi_lt {h : Nat} {F : Nat → Nat → Nat} (hF : ∀ r k, F r k < 2 ^ h) (x : Nat) (hx : x < 2 ^ h * 2 ^ h) : fi (2 ^ h) F x < 2 ^ h * 2 ^ h :=
  whole_lt (small_unr hF _ (small_unr hF _ (small_unr hF _ (small_unr hF _ (small_parts (Nat.two_pow_pos h) hx)))))

theorem fi_fe {h : Nat} {F : Nat → Nat → Nat} (hF : ∀ r k, F r k < 2 ^ h) (x : Nat) (hx : x < 2 ^ h * 2 ^ h) : fi (2 ^ h) F (fe (2 ^ h) F x) = x := by
  have hp := small_parts (Nat.two_pow_pos h) hx
  unfold fi fe
  rw [parts_whole (Nat.two_pow_pos h) (small_rnd hF _ (small_rnd hF _ (small_rnd hF _ (small_rnd hF _ hp)))), unr_rnd, unr_rnd, unr_rnd, unr_rnd, whole_parts]
theorem fe_fi {h : Nat} {F : Nat → Nat → Nat} (hF : ∀ r k, F r k < 2 ^ h) (x : Nat) (hx : x < 2 ^ h * 2 ^ h) : fe (2 ^ h) F (fi (2 ^ h) F x) = x := by
  have hp := small_parts (Nat.two_pow_pos h) hx
  unfold fi fe
  rw [parts_whole (Nat.two_pow_pos h) (small_unr hF _ (small_unr hF _ (small_unr hF _ (small_unr hF _ hp)))), rnd_unr, rnd_unr, rnd_unr, rnd_unr, whole_parts]

/-- The rounds from j on, f of them; and the way back from round j - 1 down. -/
def rnds (F : Nat → Nat → Nat) : Nat → Nat → Nat × Nat → Nat × Nat
  | 0, _, p => p
  | f + 1, k, p => rnds F f (k + 1) (rnd F k p)
def unrs (F : Nat → Nat → Nat) : Nat → Nat × Nat → Nat × Nat
  | 0, p => p
  | j + 1, p => unrs F j (unr F j p)

theorem fe_rnds (H : Nat) (F : Nat → Nat → Nat) (x : Nat) : fe H F x = whole H (rnds F 4 0 (parts H x)) := rfl
theorem fi_unrs (H : Nat) (F : Nat → Nat → Nat) (x : Nat) : fi H F x = whole H (unrs F 4 (parts H x)) := rfl

end Go.Proofs.Qxb6603512a.Plain

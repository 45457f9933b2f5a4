import Derived.Test.Qxb6603512aProg
import Derived.Test.Qxb6603512aPlain
import Derived.WalkKit
import Derived.OpenShut
import Derived.WalkLawsBesides
import Derived.Deep.QuietTactic
import Derived.BigQuiet
import Derived.Laws.BitsAllLaws
namespace Go.Proofs.Qxb6603512a
open Go.RowKit
open Plain

def mixI (x : Int) : Int :=
  let a := IntKind.u64.wrap (bits BinOp.xor IntKind.u64 x (x / 1073741824) * 13787848793156543929)
  let b := IntKind.u64.wrap (bits BinOp.xor IntKind.u64 a (a / 134217728) * 10723151780598845931)
  bits BinOp.xor IntKind.u64 b (b / 2147483648)

theorem mix_any (x : Int) (w : World) :
    Calls Try.prog 20 #[.int .u64 x] w fun e w' => e = .returned (.int .u64 (mixI x)) ∧ w' = w := by
  go_enter Try.func20, Try.ntmps20
  go_wp2
  go_ret
  exact ⟨rfl, rfl⟩

theorem zzmix_any (x : Int) (w : World) :
    Calls Try.prog 19 #[.int .u64 x] w fun e w' => e = .returned (.int .u64 (mixI x)) ∧ w' = w := by
  go_enter Try.func19, Try.ntmps19
  go_wp2_with (go_at_call 20; refine (mix_any x _).mono ?_; rintro e w' ⟨rfl, rfl⟩)
  go_ret
  exact ⟨rfl, rfl⟩

theorem mixI_range (x : Int) : 0 ≤ mixI x ∧ mixI x < 18446744073709551616 := by
  have h := fun a b => bounds_u64 (wf_bits .xor .u64 a b)
  have h2 := h (IntKind.u64.wrap (bits BinOp.xor IntKind.u64 (IntKind.u64.wrap (bits BinOp.xor IntKind.u64 x (x / 1073741824) * 13787848793156543929)) (IntKind.u64.wrap (bits BinOp.xor IntKind.u64 x (x / 1073741824) * 13787848793156543929) / 134217728) * 10723151780598845931)) (IntKind.u64.wrap (bits BinOp.xor IntKind.u64 (IntKind.u64.wrap (bits BinOp.xor IntKind.u64 x (x / 1073741824) * 13787848793156543929)) (IntKind.u64.wrap (bits BinOp.xor IntKind.u64 x (x / 1073741824) * 13787848793156543929) / 134217728) * 10723151780598845931) / 2147483648)
  have e : mixI x = bits .xor .u64 (IntKind.u64.wrap (bits BinOp.xor IntKind.u64 (IntKind.u64.wrap (bits BinOp.xor IntKind.u64 x (x / 1073741824) * 13787848793156543929)) (IntKind.u64.wrap (bits BinOp.xor IntKind.u64 x (x / 1073741824) * 13787848793156543929) / 134217728) * 10723151780598845931)) (IntKind.u64.wrap (bits BinOp.xor IntKind.u64 (IntKind.u64.wrap (bits BinOp.xor IntKind.u64 x (x / 1073741824) * 13787848793156543929)) (IntKind.u64.wrap (bits BinOp.xor IntKind.u64 x (x / 1073741824) * 13787848793156543929) / 134217728) * 10723151780598845931) / 2147483648) := rfl
  rw [e]
  omega

/-- The argument that a round hands to mix64. -/
def argI (r k : Nat) : Int := ((r : Int) + (k : Int) * 11400714819323198485) % 18446744073709551616

/-- A round's function. -/
def F (h : Nat) (r k : Nat) : Nat := (mixI (argI r k)).toNat % 2 ^ h

theorem F_lt (h : Nat) : ∀ r k, F h r k < 2 ^ h := fun _ _ => Nat.mod_lt _ (Nat.two_pow_pos h)

theorem and_mask (x : Int) (h : Nat) (h0 : 0 ≤ x) (h1 : x < 18446744073709551616) (hh : h ≤ 32) : bits .and .u64 x ((2 ^ h - 1 : Nat) : Int) = ((x.toNat % 2 ^ h : Nat) : Int) := by
  have hp : 2 ^ h ≤ 2 ^ 32 := Nat.pow_le_pow_right (by decide) hh
  rw [u64_and x _ h0 h1 (by omega) (by omega), Int.toNat_natCast, Nat.and_two_pow_sub_one_eq_mod]

theorem and_step (h l k : Nat) (arg : Int) (ha : arg = argI l k) (hh : h ≤ 32) : bits .and .u64 (mixI arg) ((2 ^ h - 1 : Nat) : Int) = ((F h l k : Nat) : Int) := by
  subst ha
  have := mixI_range (argI l k)
  exact and_mask _ h this.1 this.2 hh

theorem xor_step (h l r k : Nat) (arg : Int) (ha : arg = argI l k) (hh : h ≤ 32) (hr : r < 2 ^ h) : bits .xor .u64 (r : Int) (bits .and .u64 (mixI arg) ((2 ^ h - 1 : Nat) : Int)) = ((r ^^^ F h l k : Nat) : Int) := by
  have hp : 2 ^ h ≤ 2 ^ 32 := Nat.pow_le_pow_right (by decide) hh
  have hf := F_lt h l k
  rw [and_step h l k arg ha hh, u64_xor_nat _ _ (by omega) (by omega)]

theorem or_step (h l r : Nat) (hl : l < 2 ^ h) (hr : r < 2 ^ h) (hh : h ≤ 32) (X : Int) (hX : X = (l : Int) * 2 ^ h) : bits .or .u64 X (r : Int) = ((whole (2 ^ h) (l, r) : Nat) : Int) := by
  have hp : 2 ^ h ≤ 2 ^ 32 := Nat.pow_le_pow_right (by decide) hh
  have hw := whole_lt (H := 2 ^ h) (p := (l, r)) ⟨hl, hr⟩
  have hsq : 2 ^ h * 2 ^ h ≤ 2 ^ 32 * 2 ^ 32 := Nat.mul_le_mul hp hp
  have e1 : X = ((l * 2 ^ h : Nat) : Int) := by rw [hX, Int.natCast_mul, Int.natCast_pow]; rfl
  unfold whole at hw ⊢
  simp only at hw ⊢
  rw [e1, u64_or_nat _ _ (by omega) (by omega)]
  congr 1
  rw [Nat.mul_comm, ← Nat.two_pow_add_eq_or_of_lt hr]

end Go.Proofs.Qxb6603512a

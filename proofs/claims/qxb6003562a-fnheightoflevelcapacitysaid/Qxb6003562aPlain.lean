import Derived.RowKit
namespace Go.Proofs.Qxb6003562a.Plain
open Go.RowKit

/-- b * f^k, as integers. -/
def pw (b f : Int) (k : Nat) : Int := b * f ^ k
theorem pw_zero (b f : Int) : pw b f 0 = b := by simp [pw]
theorem pw_succ (b f : Int) (k : Nat) : pw b f (k + 1) = pw b f k * f := by
  simp only [pw, Int.pow_succ, Int.mul_assoc]
theorem pw_pos {b f : Int} (hb : 1 ≤ b) (hf : 2 ≤ f) (k : Nat) : 1 ≤ pw b f k := by
  induction k with
  | zero => rw [pw_zero]; exact hb
  | succ k ih =>
    rw [pw_succ]
    have : 1 * 1 ≤ pw b f k * f := Int.mul_le_mul ih (by omega) (by omega) (by omega)
    omega
theorem pw_double {b f : Int} (hb : 1 ≤ b) (hf : 2 ≤ f) (k : Nat) : 2 * pw b f k ≤ pw b f (k + 1) := by
  rw [pw_succ]
  have h := pw_pos hb hf k
  have : pw b f k * 2 ≤ pw b f k * f := Int.mul_le_mul_of_nonneg_left hf (by omega)
  omega
theorem pw_mono {b f : Int} (hb : 1 ≤ b) (hf : 2 ≤ f) {i j : Nat} (h : i ≤ j) : pw b f i ≤ pw b f j := by
  induction h with
  | refl => omega
  | @step m h ih => have h1 := pw_double hb hf m; have h2 := pw_pos hb hf m; show _ ≤ pw b f (m + 1); omega
theorem pw_ge {b f : Int} (hb : 1 ≤ b) (hf : 2 ≤ f) (k : Nat) : b ≤ pw b f k := by
  have := pw_mono hb hf (Nat.zero_le k); rw [pw_zero] at this; exact this
theorem pw_two {b f : Int} (hb : 1 ≤ b) (hf : 2 ≤ f) (k : Nat) : (2 : Int) ^ k ≤ pw b f k := by
  induction k with
  | zero => rw [pw_zero]; simpa using hb
  | succ k ih => have := pw_double hb hf k; rw [Int.pow_succ]; omega
theorem pw_small {b f : Int} (hb : 1 ≤ b) (hf : 2 ≤ f) {k : Nat} (h : pw b f k ≤ 9223372036854775807) : k ≤ 62 := by
  apply Decidable.byContradiction
  intro hk
  have h1 := pw_two hb hf 63
  have h2 := pw_mono hb hf (show 63 ≤ k by omega)
  have : (2 : Int) ^ 63 = 9223372036854775808 := by decide
  omega
/-- 'S <= (size-1)/f' is 'S*f <= size-1'. -/
theorem le_div {S f s : Int} (hf : 2 ≤ f) : S ≤ s / f ↔ S * f ≤ s := Int.le_ediv_iff_mul_le (by omega)

theorem neg_one_tdiv {f : Int} (hf : 2 ≤ f) : (-1 : Int).tdiv f = 0 := by
  rw [Int.neg_tdiv, Int.tdiv_eq_ediv_of_nonneg (by omega), Int.ediv_eq_zero_of_lt (by omega) (by omega)]; rfl

/-- What 'span' computes, in int64's wrapping arithmetic. -/
def sp (b f : Int) : Nat → Int
  | 0 => b
  | k + 1 => wrap64 (sp b f k * f)
theorem sp_pw {b f : Int} (hb : 1 ≤ b) (hf : 2 ≤ f) : ∀ (k : Nat), pw b f k ≤ 9223372036854775807 → sp b f k = pw b f k
  | 0, _ => by rw [pw_zero]; rfl
  | k + 1, h => by
    have h1 := pw_double hb hf k
    have h2 := pw_pos hb hf k
    have ih := sp_pw hb hf k (by omega)
    have h3 := pw_pos hb hf (k + 1)
    show wrap64 (sp b f k * f) = _
    rw [ih, ← pw_succ]
    unfold wrap64; omega

/-- The level of a file of exactly b*f^k bytes is k; of one byte more, k + 1. -/
theorem pw_lt {b f : Int} (hb : 1 ≤ b) (hf : 2 ≤ f) {i j : Nat} (h : i < j) : pw b f i < pw b f j := by
  have h1 := pw_double hb hf i
  have h2 := pw_pos hb hf i
  have h3 := pw_mono hb hf (show i + 1 ≤ j from h)
  omega
theorem level_exact {b f : Int} (hb : 1 ≤ b) (hf : 2 ≤ f) {k j : Nat} (hk : 1 ≤ k) (h2 : pw b f k ≤ pw b f (j + 1)) (h3 : 1 ≤ j → pw b f j < pw b f k) : j + 1 = k := by
  have a1 : ¬ j + 1 < k := fun h => by have := pw_lt hb hf h; omega
  have a2 : ¬ k < j + 1 := fun h => by
    have := pw_mono hb hf (show k ≤ j by omega)
    have := h3 (by omega)
    omega
  omega
theorem level_above {b f : Int} (hb : 1 ≤ b) (hf : 2 ≤ f) {k j : Nat} (hk : 1 ≤ k) (h2 : pw b f k + 1 ≤ pw b f (j + 1)) (h3 : 1 ≤ j → pw b f j < pw b f k + 1) : j = k := by
  have a1 : ¬ j + 1 ≤ k := fun h => by have := pw_mono hb hf h; omega
  have a2 : ¬ k < j := fun h => by
    have := pw_lt hb hf h
    have := h3 (by omega)
    omega
  omega

/-! ### congruence modulo 2^64 -/
def M : Int := 18446744073709551616
theorem wrap_mod (x : Int) : wrap64 x % M = x % M := by unfold wrap64 M; omega
theorem wrap_congr {x y : Int} (h : x % M = y % M) : wrap64 x = wrap64 y := by unfold M at h; unfold wrap64; omega
theorem sp_mod (b f : Int) : ∀ k : Nat, sp b f k % M = (b * f ^ k) % M
  | 0 => by simp [sp]
  | k + 1 => by
    show wrap64 (sp b f k * f) % M = _
    rw [wrap_mod, Int.mul_emod, sp_mod b f k, ← Int.mul_emod, Int.pow_succ, Int.mul_assoc]
theorem mul_congr {a a' c c' : Int} (h : a % M = a' % M) (g : c % M = c' % M) : (a * c) % M = (a' * c') % M := by
  rw [Int.mul_emod, h, g, ← Int.mul_emod]
theorem span_law (b f : Int) (i j : Nat) :
    wrap64 (wrap64 (sp b f i * sp b f j) * f) = wrap64 (b * sp b f (i + j + 1)) := by
  apply wrap_congr
  have e1 : (wrap64 (sp b f i * sp b f j) * f) % M = ((b * f ^ i) * (b * f ^ j) * f) % M :=
    mul_congr ((wrap_mod _).trans (mul_congr (sp_mod b f i) (sp_mod b f j))) rfl
  have e2 : (b * sp b f (i + j + 1)) % M = (b * (b * f ^ (i + j + 1))) % M := mul_congr rfl (sp_mod b f _)
  rw [e1, e2]
  congr 1
  rw [Int.pow_succ, Int.pow_add]
  simp only [Int.mul_assoc, Int.mul_comm, Int.mul_left_comm]
end Go.Proofs.Qxb6003562a.Plain

import Derived.WalkKit
import Derived.Laws.BitsAllLaws
namespace Go.Proofs.Qxb6604446a
open Go.RowKit

theorem bd32 {n : Int} (h : (Lit.int .u32 n).wf = true) : 0 ≤ n ∧ n < 4294967296 := by
  have : 0 ≤ n ∧ n ≤ 4294967295 := by simpa [Lit.wf, IntKind.min, IntKind.max, IntKind.signed, IntKind.bits] using h
  omega

/-- What is known of g = s | 4 where s & 2 is not 0. -/
theorem or_four {s : Int} (h0 : 0 ≤ s) (h1 : s < 4294967296) (h2 : bits .and .u32 s 2 ≠ 0) :
    ∃ g : Int, bits .or .u32 s 4 = g ∧ 4 ≤ g ∧ g < 4294967296 ∧ bits .andNot .u32 g 4 = bits .andNot .u32 s 4 ∧ bits .and .u32 g 4 ≠ 0 ∧ bits .and .u32 g 2 ≠ 0 ∧ bits .or .u32 g 4 = g := by
  obtain ⟨a, rfl⟩ : ∃ a : Nat, s = (a : Int) := ⟨s.toNat, by omega⟩
  have ha : a < 4294967296 := by omega
  have e4 : (4 : Int) = ((4 : Nat) : Int) := rfl
  have e2 : (2 : Int) = ((2 : Nat) : Int) := rfl
  have hb : a ||| 4 < 4294967296 := by
    have : a ||| 4 < 2 ^ 32 := Nat.or_lt_two_pow (by omega) (by omega)
    omega
  have hge : 4 ≤ a ||| 4 := Nat.right_le_or
  rw [e2, u32_and_nat a 2 ha (by omega)] at h2
  have h2' : a &&& 2 ≠ 0 := fun h => h2 (by rw [h]; rfl)
  refine ⟨((a ||| 4 : Nat) : Int), by rw [e4, u32_or_nat a 4 ha (by omega)], by omega, by omega, ?_, ?_, ?_, ?_⟩
  · rw [e4, u32_andNot_nat _ 4 hb (by omega), u32_andNot_nat a 4 ha (by omega), Nat.and_or_distrib_right, show (4 &&& (4294967295 - 4) : Nat) = 0 by decide, Nat.or_zero]
  · rw [e4, u32_and_nat _ 4 hb (by omega), Nat.and_or_distrib_right]
    have : 4 ≤ (a &&& 4) ||| (4 &&& 4) := Nat.right_le_or
    omega
  · rw [e2, u32_and_nat _ 2 hb (by omega), Nat.and_or_distrib_right, show (4 &&& 2 : Nat) = 0 by decide, Nat.or_zero]
    omega
  · rw [e4, u32_or_nat _ 4 hb (by omega), Nat.or_assoc, Nat.or_self]
end Go.Proofs.Qxb6604446a

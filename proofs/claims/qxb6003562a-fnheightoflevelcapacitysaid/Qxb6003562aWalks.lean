import Derived.Test.Qxb6003562aRows
import Derived.Test.Qxb6003562aPlain
import Derived.WalkKit
import Derived.ProofKit
namespace Go.Proofs.Qxb6003562a
open Go.ChangeShapes Go.WideShapes Go.ChangeAt Go.RowKit
open Plain

theorem bd {n : Int} (h : (Lit.int .i64 n).wf = true) : -9223372036854775808 ≤ n ∧ n ≤ 9223372036854775807 := by
  simpa [Lit.wf, IntKind.min, IntKind.max, IntKind.signed, IntKind.bits] using h
theorem grown_trans {a b c : World} (h : Grown a b) (g : Grown b c) : Grown a c :=
  ⟨World.keptBut_trans h.1 g.1, fun x => (g.2.1 x).trans (h.2.1 x), Nat.le_trans h.2.2 g.2.2⟩

/-- layout.height: k + 1, where k is the least with s <= b*f^(k+1). -/
theorem height_any (b f s : Int) (hb : 1 ≤ b) (hb' : b ≤ 9223372036854775807) (hf : 2 ≤ f) (hf' : f ≤ 9223372036854775807) (hs : 1 ≤ s) (hs' : s ≤ 9223372036854775807) (w : World) :
    Calls Try.prog 10 #[.agg #[.int .i64 b, .int .i64 f], .int .i64 s] w fun e w' =>
      ∃ k : Nat, e = .returned (.int .i64 ((k : Int) + 1)) ∧ pw b f k ≤ 9223372036854775807 ∧ s ≤ pw b f (k + 1) ∧ (1 ≤ k → pw b f k < s) ∧ Grown w w' := by
  go_enter Try.func10, Try.ntmps10
  go_wp2
  go_loop [5, 6] (fun h p => ∃ k : Nat, h = .int .i64 ((k : Int) + 1) ∧ p = .int .i64 (pw b f k) ∧ pw b f k ≤ 9223372036854775807 ∧ (1 ≤ k → pw b f k < s)) (fun _ p => (s - intOf p).toNat)
  case atStart => exact ⟨0, by simp, by rw [pw_zero], by rw [pw_zero]; exact hb', by omega⟩
  case round =>
    obtain ⟨k, rfl, rfl, hk1, hk2⟩ := hrel
    have hsm := pw_small hb hf hk1
    have hp := pw_pos hb hf k
    have hd := pw_double hb hf k
    have HS : Hid (pw b f (k + 1) = pw b f k * f) := pw_succ b f k
    by_cases hc : pw b f k ≤ (s - 1) / f
    · have hle : pw b f k * f ≤ s - 1 := (le_div hf).1 hc
      have hge : 0 ≤ pw b f k * f := by rw [← HS.out]; omega
      go_wp2
      go_round
      case rel => exact ⟨k + 1, by go_num, by rw [HS.out], by rw [HS.out]; omega, by intro _; rw [HS.out]; omega⟩
      case measure => simp [intOf]; rw [← HS.out]; have := HS.out; omega
    · have hgt : ¬ pw b f k * f ≤ s - 1 := fun h => hc ((le_div hf).2 h)
      go_wp2
      go_ret
      exact ⟨k, rfl, hk1, by rw [HS.out]; omega, hk2, by repeat (first | exact Grown.refl _ | apply Grown.drew | apply Grown.alloc)⟩

theorem height_zero (b f : Int) (hb : 1 ≤ b) (hb' : b ≤ 9223372036854775807) (hf : 2 ≤ f) (hf' : f ≤ 9223372036854775807) (w : World) :
    Calls Try.prog 10 #[.agg #[.int .i64 b, .int .i64 f], .int .i64 0] w fun e w' => e = .returned (.int .i64 1) ∧ Grown w w' := by
  have ht := neg_one_tdiv hf
  go_enter Try.func10, Try.ntmps10
  go_wp2
  refine wp_loop_rounds 1 ?_
  rw [rounds_succ]
  go_wp2
  go_ret
  exact ⟨rfl, by repeat (first | exact Grown.refl _ | apply Grown.drew | apply Grown.alloc)⟩

theorem zzheight_any (b f s : Int) (hb : 1 ≤ b) (hb' : b ≤ 9223372036854775807) (hf : 2 ≤ f) (hf' : f ≤ 9223372036854775807) (hs : 0 ≤ s) (hs' : s ≤ 9223372036854775807) (w : World) :
    Calls Try.prog 7 #[.int .i64 b, .int .i64 f, .int .i64 s] w fun e w' =>
      ∃ k : Nat, e = .returned (.int .i64 ((k : Int) + 1)) ∧ pw b f k ≤ 9223372036854775807 ∧ s ≤ pw b f (k + 1) ∧ (1 ≤ k → pw b f k < s) ∧ Grown w w' := by
  by_cases h0 : s = 0
  · subst h0
    go_enter Try.func7, Try.ntmps7
    go_wp2_with (go_at_call 10; refine (height_zero _ _ hb hb' hf hf' _).mono ?_; rintro e w' ⟨rfl, hg⟩)
    go_ret
    exact ⟨0, rfl, by rw [pw_zero]; exact hb', by have := pw_pos hb hf (0 + 1); omega, by omega, hg⟩
  · go_enter Try.func7, Try.ntmps7
    go_wp2_with (go_at_call 10; refine (height_any _ _ _ hb hb' hf hf' (by omega) hs' _).mono ?_; rintro e w' ⟨k, rfl, h1, h2, h3, hg⟩)
    go_ret
    exact ⟨k, rfl, h1, h2, h3, hg⟩

theorem span_any (b f h : Int) (h1 : 1 ≤ h) (h2 : h ≤ 100000) (w : World) :
    Calls Try.prog 11 #[.agg #[.int .i64 b, .int .i64 f], .int .i64 h] w fun e w' =>
      e = .returned (.int .i64 (sp b f (h.toNat - 1))) ∧ Grown w w' := by
  go_enter Try.func11, Try.ntmps11
  go_wp2
  go_loop [5, 10] (fun p i => ∃ k : Nat, k ≤ (h.toNat - 1) ∧ i = .int .i64 k ∧ p = .int .i64 (sp b f k)) (fun _ i => (h.toNat - 1) - (intOf i).toNat)
  case atStart => exact ⟨0, Nat.zero_le _, rfl, rfl⟩
  case round =>
    obtain ⟨k, hk, rfl, rfl⟩ := hrel
    by_cases hlt : (k : Int) < h - 1
    · go_wp2
      go_round
      case rel => exact ⟨k + 1, by omega, by go_num, rfl⟩
      case measure => simp [intOf]; omega
    · have e : k = (h.toNat - 1) := by omega
      subst e
      go_wp2
      go_ret
      exact ⟨rfl, by repeat (first | exact Grown.refl _ | apply Grown.drew | apply Grown.alloc)⟩

theorem zzspan_any (b f h : Int) (h1 : 1 ≤ h) (h2 : h ≤ 100000) (w : World) :
    Calls Try.prog 8 #[.int .i64 b, .int .i64 f, .int .i64 h] w fun e w' =>
      e = .returned (.int .i64 (sp b f (h.toNat - 1))) ∧ Grown w w' := by
  go_enter Try.func8, Try.ntmps8
  go_wp2_with (go_at_call 11; refine (span_any _ _ _ h1 h2 _).mono ?_; rintro e w' ⟨rfl, hg⟩)
  go_ret
  exact ⟨rfl, hg⟩

/-- prodAtLeast where x*f >= n holds as integers, and where it does not. -/
theorem prod_yes (x f n : Int) (hx : 1 ≤ x) (hf : 2 ≤ f) (h : n ≤ x * f) (w : World) :
    Calls Try.prog 9 #[.int .i64 x, .int .i64 f, .int .i64 n] w fun e w' => e = .returned (.bool true) ∧ Grown w w' := by
  by_cases hc : 9223372036854775807 / f < x
  · go_enter Try.func9, Try.ntmps9
    go_wp2
    go_ret
    exact ⟨rfl, Grown.refl _⟩
  · have hle : x * f ≤ 9223372036854775807 := (le_div hf).1 (by omega)
    have hge : 0 ≤ x * f := Int.mul_nonneg (by omega) (by omega)
    go_enter Try.func9, Try.ntmps9
    go_wp2
    go_ret
    exact ⟨rfl, Grown.refl _⟩
theorem prod_no (x f n : Int) (hx : 1 ≤ x) (hf : 2 ≤ f) (h : x * f < n) (hn : n ≤ 9223372036854775807) (w : World) :
    Calls Try.prog 9 #[.int .i64 x, .int .i64 f, .int .i64 n] w fun e w' => e = .returned (.bool false) ∧ Grown w w' := by
  have hc : x ≤ 9223372036854775807 / f := (le_div hf).2 (by omega)
  have hge : 0 ≤ x * f := Int.mul_nonneg (by omega) (by omega)
  have hd : decide (n ≤ x * f) = false := by simp; omega
  go_enter Try.func9, Try.ntmps9
  go_wp2
  go_ret
  exact ⟨rfl, Grown.refl _⟩
end Go.Proofs.Qxb6003562a

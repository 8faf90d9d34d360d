import Derived.Test.Qxb6003562aWalks
import Derived.Test.Qxb6003562aRows
import Derived.WalkKit
import Derived.ProofKit
import Derived.OpenShut
import Derived.ShutString
namespace Go.Proofs.Qxb6003562a.fnHeightOfLevelCapacity
open Go.ChangeShapes Go.WideShapes Go.ChangeAt Go.RowKit
open Go.ChangeMaps (open_string shut_string)
open Plain
set_option linter.unusedVariables false      -- a walk need not use every 'w<i>' (that an integer argument fits its kind)

theorem own : ownKnob Try.prog.godebug = none := by kernel_rfl

/-! ### STEP 1: THE WALK: the Go text returns true. 'Grown w w'': the world has at most new blocks (Derived/RowKit3.lean). Part the cases AHEAD of 'go_enter' where a test parts the walk; take each callee by a contract of your own. -/
theorem walk (a0 : Int) (a1 : Int) (a2 : Int) (w0 : (Lit.int .i64 a0).wf = true) (w1 : (Lit.int .i64 a1).wf = true) (w2 : (Lit.int .i64 a2).wf = true) (w : World) :
    Calls Try.prog 5 #[.int .i64 a0, .int .i64 a1, .int .i64 a2] w fun e w' => e = .returned (.bool true) ∧ Grown w w' := by
  have B0 := bd w0
  have B1 := bd w1
  have B2 := bd w2
  clear w0 w1 w2
  obtain ⟨_, B0⟩ := B0
  obtain ⟨_, B1⟩ := B1
  by_cases c1 : a0 < 1
  · go_enter Try.func5, Try.ntmps5
    go_wp2
    go_ret
    exact ⟨rfl, Grown.refl _⟩
  by_cases c2 : a1 < 2
  · go_enter Try.func5, Try.ntmps5
    go_wp2
    go_ret
    exact ⟨rfl, Grown.refl _⟩
  by_cases c3 : a2 < 1
  · go_enter Try.func5, Try.ntmps5
    go_wp2
    go_ret
    exact ⟨rfl, Grown.refl _⟩
  by_cases c4 : 64 < a2
  · go_enter Try.func5, Try.ntmps5
    go_wp2
    go_ret
    exact ⟨rfl, Grown.refl _⟩
  have hb : 1 ≤ a0 := by omega
  have hf : 2 ≤ a1 := by omega
  have hh1 : 1 ≤ a2 := by omega
  have hh2 : a2 ≤ 64 := by omega
  go_enter Try.func5, Try.ntmps5
  go_wp2
  go_loop [7, 8] (fun c i => ∃ k : Nat, (k : Int) ≤ a2 ∧ i = .int .i64 k ∧ c = .int .i64 (pw a0 a1 k) ∧ pw a0 a1 k ≤ 9223372036854775807) (fun _ i => a2.toNat - (intOf i).toNat)
  case atStart => exact ⟨0, by omega, rfl, by rw [pw_zero], by rw [pw_zero]; exact B0⟩
  case round =>
    obtain ⟨k, hk, rfl, rfl, hp⟩ := hrel
    have hpos := pw_pos hb hf k
    have HS : Hid (pw a0 a1 (k + 1) = pw a0 a1 k * a1) := pw_succ a0 a1 k
    by_cases hlt : (k : Int) < a2
    · by_cases hc : 9223372036854775807 / a1 < pw a0 a1 k
      · go_wp2
        go_ret
        exact ⟨rfl, Grown.refl _⟩
      · have hle : pw a0 a1 k * a1 ≤ 9223372036854775807 := (le_div hf).1 (by omega)
        have hge : 0 ≤ pw a0 a1 k * a1 := Int.mul_nonneg (by omega) (by omega)
        go_wp2
        go_round
        case rel => exact ⟨k + 1, by omega, by go_num, by rw [HS.out], by rw [HS.out]; exact hle⟩
        case measure => simp [intOf]; omega
    · have ek : a2 = (k : Int) := by omega
      clear hk hlt HS
      subst ek
      have hk1 : 1 ≤ k := by omega
      by_cases hm : pw a0 a1 k < 9223372036854775807
      · go_wp2_with fail
        refine (zzheight_any a0 a1 (pw a0 a1 k) hb B0 hf B1 (by omega) hp _).mono ?_
        rintro e w1 ⟨j, rfl, h1, h2, h3, hg1⟩
        have ej := level_exact hb hf hk1 h2 h3
        clear h1 h2 h3
        subst ej
        go_wp2_with fail
        refine (zzheight_any a0 a1 (pw a0 a1 (j + 1) + 1) hb B0 hf B1 (by omega) (by omega) _).mono ?_
        rintro e w2 ⟨i, rfl, h1, h2, h3, hg2⟩
        have ei := level_above hb hf hk1 h2 h3
        clear h1 h2 h3
        subst ei
        go_wp2
        go_ret
        exact ⟨rfl, grown_trans hg1 hg2⟩
      · go_wp2_with fail
        refine (zzheight_any a0 a1 (pw a0 a1 k) hb B0 hf B1 (by omega) hp _).mono ?_
        rintro e w1 ⟨j, rfl, h1, h2, h3, hg1⟩
        have ej := level_exact hb hf hk1 h2 h3
        clear h1 h2 h3
        subst ej
        go_wp2
        go_ret
        exact ⟨rfl, hg1⟩

/-! ### THE ROW's STEP: WRITTEN OUT: LEAVE IT -/
set_option maxRecDepth 100000 in
theorem lifted (os : Os) (started : os.Started) (H : Type) (enc : TypeId × Value → H) :
    ReturnsInHanded {} Try.checked os 5 .any (Rows.fnHeightOfLevelCapacitySpec.pre6 enc Try.prog Try.f5 Rows.fnHeightOfLevelCapacityRow.domain false) (Rows.fnHeightOfLevelCapacitySpec.post enc Try.prog Try.f5 false true false false) := by
  refine returnsInHanded_of_change (C := Try.checked) own started (by kernel_rfl) Try.func5
    (ChangeSpec.witness6 (enc := enc) (C := Try.checked) false ⟨#[], #[.int .i64 0, .int .i64 0, .int .i64 0], []⟩ 8 (by kernel_rfl) (by kernel_rfl) (by kernel_rfl) (by kernel_rfl)) ?_
  intro W base args ds gs before hval0 hW hcnd _
  have hval : ∀ (j : Nat) t v, Try.f5.params[j]? = some t → args[j]? = some v → Value.okWide Try.prog W .any base t v := hval0
  have hW' := hW
  obtain ⟨p, q, hA0, hV, rfl, hfz, hnd⟩ := hW
  have hA : DataW.TrodAll enc Try.prog W 0 (fun _ => true) true Try.f5.params.toList args.toList ds p := hA0
  rw [Try.params5] at hA hval
  obtain ⟨v0, vs0, d0, ds0, p0, q0, hargs, rfl, rfl, h0, r0⟩ := trodAll_cons hA
  obtain ⟨v1, vs1, d1, ds1, p1, q1, rfl, rfl, rfl, h1, r1⟩ := trodAll_cons r0
  obtain ⟨v2, vs2, d2, ds2, p2, q2, rfl, rfl, rfl, h2, r2⟩ := trodAll_cons r1
  obtain ⟨rfl, rfl, rfl⟩ := trodAll_nil r2
  obtain rfl : args = #[v0, v1, v2] := by cases args; simp_all
  obtain ⟨rfl, rfl⟩ := trodVars_none hV
  obtain ⟨a0, rfl, rfl, rfl, w0⟩ := open_int Try.underlying2 (hval 0 2 v0 rfl rfl) h0
  obtain ⟨a1, rfl, rfl, rfl, w1⟩ := open_int Try.underlying2 (hval 1 2 v1 rfl rfl) h1
  obtain ⟨a2, rfl, rfl, rfl, w2⟩ := open_int Try.underlying3 (hval 2 3 v2 rfl rfl) h2
  clear hA0 hval0
  simp only [List.append_nil] at hW'
  refine (walk a0 a1 a2 w0 w1 w2 W).mono fun e W' ⟨he, hg⟩ => ?_
  subst he
  exact ⟨_, rfl, post_of_same (pa := []) (pv := []) hW' (fun _ _ _ => (trodAll_cons_mk (shut_bool Try.underlying4 _) trodAll_mk0)) (fun sp _ => (trodAll_cons_mk (shut_int Try.underlying2 w0) (trodAll_cons_mk (shut_int Try.underlying2 w1) (trodAll_cons_mk (shut_int Try.underlying3 w2) trodAll_mk0)))) (fun _ _ => rfl) rfl
    (hg.frame _) hg.2.1 (ok_one (by kernel_rfl) rfl (okWide_bool_mk Try.underlying4 _))⟩

theorem over : Rows.fnHeightOfLevelCapacityRow.holds Try.pinned (OpenSpec.ofChange Rows.fnHeightOfLevelCapacitySpec) :=
  OpenClaim.holds_of_wide 5 Try.f5 rfl rfl rfl rfl rfl rfl rfl ⟨rfl, rfl, rfl, rfl, rfl⟩ rfl rfl rfl rfl rfl (by kernel_rfl) Try.func5 (by kernel_rfl)
    (of_decide_eq_true (by kernel_rfl)) (by unfold Func.isWrapper; first | (rw [if_pos (by decide +kernel)]; kernel_rfl) | (rw [if_neg (by decide +kernel)]; exact ⟨rfl, rfl⟩))
    (fun os started H enc _ => lifted os started H enc)

/-- ████ THE STATEMENT ████ -/
theorem proved : Rows.FnHeightOfLevelCapacitySaid :=
  over
end Go.Proofs.Qxb6003562a.fnHeightOfLevelCapacity

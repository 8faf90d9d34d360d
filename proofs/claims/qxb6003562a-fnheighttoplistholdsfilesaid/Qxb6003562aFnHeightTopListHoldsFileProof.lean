import Derived.Test.Qxb6003562aWalks
import Derived.Test.Qxb6003562aRows
import Derived.WalkKit
import Derived.ProofKit
import Derived.OpenShut
import Derived.ShutString
namespace Go.Proofs.Qxb6003562a.fnHeightTopListHoldsFile
open Go.ChangeShapes Go.WideShapes Go.ChangeAt Go.RowKit
open Go.ChangeMaps (open_string shut_string)
open Plain
set_option linter.unusedVariables false      -- a walk need not use every 'w<i>' (that an integer argument fits its kind)

theorem own : ownKnob Try.prog.godebug = none := by kernel_rfl

theorem zzspan_at (b f : Int) (hb : 1 ≤ b) (hf : 2 ≤ f) (k : Nat) (h : pw b f k ≤ 9223372036854775807) (w : World) :
    Calls Try.prog 8 #[.int .i64 b, .int .i64 f, .int .i64 ((k : Int) + 1)] w fun e w' =>
      e = .returned (.int .i64 (pw b f k)) ∧ Grown w w' := by
  have hk := pw_small hb hf h
  have e1 := sp_pw hb hf k h
  have e2 : ((k : Int) + 1).toNat - 1 = k := by omega
  have c := zzspan_any b f ((k : Int) + 1) (by omega) (by omega) w
  rw [e2, e1] at c
  exact c

/-! ### STEP 1: THE WALK: the Go text returns true. 'Grown w w'': the world has at most new blocks (Derived/RowKit3.lean). Part the cases AHEAD of 'go_enter' where a test parts the walk; take each callee by a contract of your own. -/
theorem walk (a0 : Int) (a1 : Int) (a2 : Int) (w0 : (Lit.int .i64 a0).wf = true) (w1 : (Lit.int .i64 a1).wf = true) (w2 : (Lit.int .i64 a2).wf = true) (w : World) :
    Calls Try.prog 3 #[.int .i64 a0, .int .i64 a1, .int .i64 a2] w fun e w' => e = .returned (.bool true) ∧ Grown w w' := by
  have B0 := bd w0
  have B1 := bd w1
  have B2 := bd w2
  clear w0 w1 w2
  obtain ⟨_, B0⟩ := B0
  obtain ⟨_, B1⟩ := B1
  obtain ⟨_, B2⟩ := B2
  by_cases c1 : a0 < 1
  · go_enter Try.func3, Try.ntmps3
    go_wp2
    go_ret
    exact ⟨rfl, Grown.refl _⟩
  by_cases c2 : a1 < 2
  · go_enter Try.func3, Try.ntmps3
    go_wp2
    go_ret
    exact ⟨rfl, Grown.refl _⟩
  by_cases c3 : a2 < 0
  · go_enter Try.func3, Try.ntmps3
    go_wp2
    go_ret
    exact ⟨rfl, Grown.refl _⟩
  have hb : 1 ≤ a0 := by omega
  have hf : 2 ≤ a1 := by omega
  have hs : 0 ≤ a2 := by omega
  go_enter Try.func3, Try.ntmps3
  go_wp2_with fail
  refine (zzheight_any a0 a1 a2 hb B0 hf B1 hs B2 _).mono ?_
  rintro e w1 ⟨k, rfl, h1, h2, h3, hg1⟩
  have hk := pw_small hb hf h1
  have hge := pw_ge hb hf k
  have hpos := pw_pos hb hf k
  rw [pw_succ] at h2
  by_cases hk0 : k = 0
  · subst hk0
    go_wp2_with fail
    refine (zzspan_at a0 a1 hb hf 0 h1 _).mono ?_
    rintro e w2 ⟨rfl, hg2⟩
    go_wp2_with fail
    refine (prod_yes (pw a0 a1 0) a1 a2 hpos hf h2 _).mono ?_
    rintro e w3 ⟨rfl, hg3⟩
    go_wp2
    go_ret
    exact ⟨rfl, grown_trans (grown_trans hg1 hg2) hg3⟩
  · obtain ⟨j, rfl⟩ : ∃ j, k = j + 1 := ⟨k - 1, by omega⟩
    have h4 := h3 (by omega)
    clear h3
    have hd := pw_double hb hf j
    have hpj := pw_pos hb hf j
    have h5 : pw a0 a1 j * a1 < a2 := by rw [← pw_succ]; exact h4
    have hc : (j : Int) ≤ 61 := by omega
    go_wp2_with fail
    refine (zzspan_at a0 a1 hb hf (j + 1) h1 _).mono ?_
    rintro e w2 ⟨rfl, hg2⟩
    go_wp2_with fail
    refine (prod_yes (pw a0 a1 (j + 1)) a1 a2 hpos hf h2 _).mono ?_
    rintro e w3 ⟨rfl, hg3⟩
    go_wp2_with fail
    refine (zzspan_at a0 a1 hb hf j (by omega) _).mono ?_
    rintro e w4 ⟨rfl, hg4⟩
    go_wp2_with fail
    refine (prod_no (pw a0 a1 j) a1 a2 hpj hf h5 B2 _).mono ?_
    rintro e w5 ⟨rfl, hg5⟩
    go_wp2
    go_ret
    exact ⟨rfl, grown_trans (grown_trans (grown_trans (grown_trans hg1 hg2) hg3) hg4) hg5⟩

/-! ### THE ROW's STEP: WRITTEN OUT: LEAVE IT -/
set_option maxRecDepth 100000 in
theorem lifted (os : Os) (started : os.Started) (H : Type) (enc : TypeId × Value → H) :
    ReturnsInHanded {} Try.checked os 3 .any (Rows.fnHeightTopListHoldsFileSpec.pre6 enc Try.prog Try.f3 Rows.fnHeightTopListHoldsFileRow.domain false) (Rows.fnHeightTopListHoldsFileSpec.post enc Try.prog Try.f3 false true false false) := by
  refine returnsInHanded_of_change (C := Try.checked) own started (by kernel_rfl) Try.func3
    (ChangeSpec.witness6 (enc := enc) (C := Try.checked) false ⟨#[], #[.int .i64 0, .int .i64 0, .int .i64 0], []⟩ 8 (by kernel_rfl) (by kernel_rfl) (by kernel_rfl) (by kernel_rfl)) ?_
  intro W base args ds gs before hval0 hW hcnd _
  have hval : ∀ (j : Nat) t v, Try.f3.params[j]? = some t → args[j]? = some v → Value.okWide Try.prog W .any base t v := hval0
  have hW' := hW
  obtain ⟨p, q, hA0, hV, rfl, hfz, hnd⟩ := hW
  have hA : DataW.TrodAll enc Try.prog W 0 (fun _ => true) true Try.f3.params.toList args.toList ds p := hA0
  rw [Try.params3] at hA hval
  obtain ⟨v0, vs0, d0, ds0, p0, q0, hargs, rfl, rfl, h0, r0⟩ := trodAll_cons hA
  obtain ⟨v1, vs1, d1, ds1, p1, q1, rfl, rfl, rfl, h1, r1⟩ := trodAll_cons r0
  obtain ⟨v2, vs2, d2, ds2, p2, q2, rfl, rfl, rfl, h2, r2⟩ := trodAll_cons r1
  obtain ⟨rfl, rfl, rfl⟩ := trodAll_nil r2
  obtain rfl : args = #[v0, v1, v2] := by cases args; simp_all
  obtain ⟨rfl, rfl⟩ := trodVars_none hV
  obtain ⟨a0, rfl, rfl, rfl, w0⟩ := open_int Try.underlying2 (hval 0 2 v0 rfl rfl) h0
  obtain ⟨a1, rfl, rfl, rfl, w1⟩ := open_int Try.underlying2 (hval 1 2 v1 rfl rfl) h1
  obtain ⟨a2, rfl, rfl, rfl, w2⟩ := open_int Try.underlying2 (hval 2 2 v2 rfl rfl) h2
  clear hA0 hval0
  simp only [List.append_nil] at hW'
  refine (walk a0 a1 a2 w0 w1 w2 W).mono fun e W' ⟨he, hg⟩ => ?_
  subst he
  exact ⟨_, rfl, post_of_same (pa := []) (pv := []) hW' (fun _ _ _ => (trodAll_cons_mk (shut_bool Try.underlying4 _) trodAll_mk0)) (fun sp _ => (trodAll_cons_mk (shut_int Try.underlying2 w0) (trodAll_cons_mk (shut_int Try.underlying2 w1) (trodAll_cons_mk (shut_int Try.underlying2 w2) trodAll_mk0)))) (fun _ _ => rfl) rfl
    (hg.frame _) hg.2.1 (ok_one (by kernel_rfl) rfl (okWide_bool_mk Try.underlying4 _))⟩

theorem over : Rows.fnHeightTopListHoldsFileRow.holds Try.pinned (OpenSpec.ofChange Rows.fnHeightTopListHoldsFileSpec) :=
  OpenClaim.holds_of_wide 3 Try.f3 rfl rfl rfl rfl rfl rfl rfl ⟨rfl, rfl, rfl, rfl, rfl⟩ rfl rfl rfl rfl rfl (by kernel_rfl) Try.func3 (by kernel_rfl)
    (of_decide_eq_true (by kernel_rfl)) (by unfold Func.isWrapper; first | (rw [if_pos (by decide +kernel)]; kernel_rfl) | (rw [if_neg (by decide +kernel)]; exact ⟨rfl, rfl⟩))
    (fun os started H enc _ => lifted os started H enc)

/-- ████ THE STATEMENT ████ -/
theorem proved : Rows.FnHeightTopListHoldsFileSaid :=
  over
end Go.Proofs.Qxb6003562a.fnHeightTopListHoldsFile

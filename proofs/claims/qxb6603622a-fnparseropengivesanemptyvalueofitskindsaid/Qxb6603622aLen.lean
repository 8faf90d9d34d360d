import Derived.Test.Qxb6603622aCount
namespace Go.Proofs.Qxb6603622a
open Go.ChangeShapes Go.WideShapes Go.ChangeAt Go.RowKit

theorem len_any (B i : Nat) (ks : List Int) (v : Value) (pos : Int) (w : World) (h : St w B ks v pos) (hi : i < ks.length) (hn : ks.length ≤ 1000000) :
    Calls Try.prog 10 #[.agg #[.pointer (some ⟨B, 0, none⟩), .int .u32 i]] w fun e w' => e = .returned (.int .i64 0) ∧ Below w.heap.size w w' := by
  have hb0 : Below w.heap.size w (w.alloc (.cells #[.pointer (some ⟨B, 0, none⟩), .int .u32 i] 33)) := (Below.refl _ _).alloc (Nat.le_refl _) _
  have h1 := h.later hb0
  by_cases h0 : ks.getD i 0 = 0
  · go_enter Try.func10, Try.ntmps10
    go_wp2_with fail
    refine (kind_any B i ks v pos _ h1 hi).mono ?_
    rintro e w2 ⟨rfl, hb2⟩
    rw [h0]
    go_wp2
    go_ret
    exact ⟨rfl, hb0.trans (hb2.mono (by simp))⟩
  · have e0 : (ks.getD i 0 == 0) = false := by simpa using h0
    obtain ⟨k, hk⟩ : ∃ k, ks.getD i 0 = k := ⟨_, rfl⟩
    rw [hk] at e0
    clear h0
    go_enter Try.func10, Try.ntmps10
    go_wp2_with fail
    refine (kind_any B i ks v pos _ h1 hi).mono ?_
    rintro e w2 ⟨rfl, hb2⟩
    rw [hk]
    have h2 := h1.later hb2
    have c0 : w2.cell? ⟨w.heap.size, 0, none⟩ = some (.pointer (some ⟨B, 0, none⟩)) := (hb2.cell (p := ⟨w.heap.size, 0, none⟩) (by simp)).trans (by simp)
    have c1 : w2.cell? ⟨w.heap.size, 1, none⟩ = some (.int .u32 i) := (hb2.cell (p := ⟨w.heap.size, 1, none⟩) (by simp)).trans (by simp)
    have hb02 : Below w.heap.size w w2 := hb0.trans (hb2.mono (by simp))
    clear hk hb0 hb2 h1 h
    go_wp2_with fail
    refine (count20_any B i ks v pos w2 h2 hi hn).mono ?_
    rintro e w3 ⟨rfl, hb3⟩
    go_wp2
    go_ret
    exact ⟨rfl, hb02.trans (hb3.mono hb02.size)⟩
end Go.Proofs.Qxb6603622a

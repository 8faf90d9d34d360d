import Derived.Test.Qxb6603622aNodes
import Derived.Deep.QuietTactic
import Derived.BigQuiet
namespace Go.Proofs.Qxb6603622a
open Go.ChangeShapes Go.WideShapes Go.ChangeAt Go.RowKit

theorem valueat_any (B i : Nat) (w : World) :
    Calls Try.prog 9 #[.pointer (some ⟨B, 0, none⟩), .int .u32 i] w fun e w' => e = .returned (.agg #[.pointer (some ⟨B, 0, none⟩), .int .u32 i]) ∧ Below w.heap.size w w' := by
  go_enter Try.func9, Try.ntmps9
  go_wp2
  exact bodyPost_ret (v := .agg #[.pointer (some ⟨B, 0, none⟩), .int .u32 i]) (by simp [results, Try.results9, go_sem]) rfl ⟨rfl, (Below.refl _ _).alloc (Nat.le_refl _) _⟩

/-- Node i, as it is read. -/
theorem St.node {w : World} {B : Nat} {ks : List Int} {v : Value} {pos : Int} (h : St w B ks v pos) {i : Nat} (hi : i < ks.length) :
    ∃ g c, v = .slice (some ⟨g, 0, none⟩) ks.length c ∧ g < w.heap.size ∧ w.cell? ⟨g, i * 5, none⟩ = some (.int .u8 (ks.getD i 0)) ∧ w.cell? ⟨g, i * 5 + 4, none⟩ = some (.int .u32 0) := by
  have ho := h.own
  rcases ho.2 with ⟨_, h0⟩ | ⟨g, cap, cur, rfl, _, hh, _⟩
  · omega
  · obtain ⟨e1, e2⟩ := nodeCells_get ks i hi
    exact ⟨g, cap, rfl, (Array.getElem?_eq_some_iff.1 hh).1, (h.own.cellAt (i * 5) (by omega)).trans e1, (h.own.cellAt (i * 5 + 4) (by omega)).trans e2⟩

set_option maxHeartbeats 800000 in
theorem kind_any (B i : Nat) (ks : List Int) (v : Value) (pos : Int) (w : World) (h : St w B ks v pos) (hi : i < ks.length) :
    Calls Try.prog 18 #[.agg #[.pointer (some ⟨B, 0, none⟩), .int .u32 i]] w fun e w' => e = .returned (.int .u8 (ks.getD i 0)) ∧ Below w.heap.size w w' := by
  obtain ⟨g, c, hv, hg, hc, _⟩ := h.node hi
  have hd := h.nodes
  have hs := h.size
  obtain ⟨k, hk⟩ : ∃ k, ks.getD i 0 = k := ⟨_, rfl⟩
  rw [hk] at hc ⊢
  clear hk h
  subst hv
  have hA1 : ∀ o, (w.alloc o).cell? ⟨B, 1, none⟩ = some (.slice (some ⟨g, 0, none⟩) ks.length c) := fun o => (World.cell?_alloc_lt (h := by show B < _; omega) ..).trans hd
  have hA2 : ∀ o, (w.alloc o).cell? ⟨g, i * 5, none⟩ = some (.int .u8 k) := fun o => (World.cell?_alloc_lt (h := by exact hg) ..).trans hc
  have hi' : (i : Int) < (ks.length : Int) := by omega
  clear hd hc
  go_enter Try.func18, Try.ntmps18
  go_wp2
  go_quiet (fail)
  go_wp2
  go_ret
  exact ⟨rfl, ((Below.refl _ _).alloc (Nat.le_refl _) _).trans ⟨rfl, rfl, rfl, Nat.le_refl _, fun _ _ => rfl⟩⟩

/-! ### the two iterators: no node has a next, so nothing comes -/
theorem members_any (B i : Nat) (w : World) :
    Calls Try.prog 22 #[.pointer (some ⟨B, 0, none⟩), .int .u32 i] w fun e w' => e = .returned (.func (.func 24) #[] #[.pointer (some ⟨w.heap.size + 1, 0, none⟩), .pointer (some ⟨w.heap.size, 0, none⟩)]) ∧
      w' = (w.alloc (.cells #[.pointer (some ⟨B, 0, none⟩)] 29)).alloc (.cells #[.int .u32 i] 24) := by
  go_enter Try.func22, Try.ntmps22
  go_wp2
  go_ret
  exact ⟨rfl, rfl⟩
theorem elements_any (B i : Nat) (w : World) :
    Calls Try.prog 23 #[.pointer (some ⟨B, 0, none⟩), .int .u32 i] w fun e w' => e = .returned (.func (.func 25) #[] #[.pointer (some ⟨w.heap.size + 1, 0, none⟩), .pointer (some ⟨w.heap.size, 0, none⟩)]) ∧
      w' = (w.alloc (.cells #[.pointer (some ⟨B, 0, none⟩)] 29)).alloc (.cells #[.int .u32 i] 24) := by
  go_enter Try.func23, Try.ntmps23
  go_wp2
  go_ret
  exact ⟨rfl, rfl⟩

set_option maxHeartbeats 800000 in
theorem member1_any (l Ba Bd B g i n c : Nat) (w : World) (hi : i < n) (hn : n ≤ 1000000) (ha : w.cell? ⟨Ba, 0, none⟩ = some (.int .u32 i)) (hd : w.cell? ⟨Bd, 0, none⟩ = some (.pointer (some ⟨B, 0, none⟩)))
    (hs : w.cell? ⟨B, 1, none⟩ = some (.slice (some ⟨g, 0, none⟩) n c)) (hx : w.cell? ⟨g, i * 5 + 4, none⟩ = some (.int .u32 0)) :
    Calls Try.prog 24 #[.func (.yield l) #[] #[], .pointer (some ⟨Ba, 0, none⟩), .pointer (some ⟨Bd, 0, none⟩)] w fun e w' => e = .returned (.tuple #[]) ∧ ∃ m, w' = w.drewN m := by
  have hi' : (i : Int) < (n : Int) := by omega
  go_enter Try.func24, Try.ntmps24
  go_wp2
  refine wp_loop_rounds 1 ?_
  rw [rounds_succ]
  go_wp2
  go_quiet (fail)
  go_wp2
  go_end0
  exact ⟨rfl, _, rfl⟩

set_option maxHeartbeats 800000 in
theorem element1_any (l Ba Bd B g i n c : Nat) (w : World) (hi : i < n) (hn : n ≤ 1000000) (ha : w.cell? ⟨Ba, 0, none⟩ = some (.int .u32 i)) (hd : w.cell? ⟨Bd, 0, none⟩ = some (.pointer (some ⟨B, 0, none⟩)))
    (hs : w.cell? ⟨B, 1, none⟩ = some (.slice (some ⟨g, 0, none⟩) n c)) (hx : w.cell? ⟨g, i * 5 + 4, none⟩ = some (.int .u32 0)) :
    Calls Try.prog 25 #[.func (.yield l) #[] #[], .pointer (some ⟨Ba, 0, none⟩), .pointer (some ⟨Bd, 0, none⟩)] w fun e w' => e = .returned (.tuple #[]) ∧ ∃ m, w' = w.drewN m := by
  have hi' : (i : Int) < (n : Int) := by omega
  go_enter Try.func25, Try.ntmps25
  go_wp2
  refine wp_loop_rounds 1 ?_
  rw [rounds_succ]
  go_wp2
  go_quiet (fail)
  go_wp2
  go_end0
  exact ⟨rfl, _, rfl⟩
end Go.Proofs.Qxb6603622a

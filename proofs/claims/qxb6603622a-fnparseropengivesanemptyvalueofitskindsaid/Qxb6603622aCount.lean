import Derived.Test.Qxb6603622aValues
import Derived.RangeFuncFrom
import Derived.RangeFuncLeaves
import Derived.Shelf.Abstract
import Derived.OwnWalkIn
import Derived.TacticsInMore
import Derived.LoopNIn
import Derived.LoopIn
import Derived.Deep.OwnRows
namespace Go.Proofs.Qxb6603622a
open Go.ChangeShapes Go.WideShapes Go.ChangeAt Go.RowKit Go.Shelf

attribute [local go_sem] Oper.semAt_some

/-- One new cell. -/
theorem box_new (w : World) (v : Value) (t : TypeId) : (w.alloc (.cells #[v] t)).rowIs w.heap.size t 1 (fun _ => v) := World.rowIs_alloc w #[v] t (fun _ => v) (fun i hi => by
  have : i = 0 := by simp at hi; exact hi
  subst this; rfl)

def noArgs : Empty → Array Value := fun x => x.elim

theorem member_stops (Ba Bd B g i n c n0 : Nat) (w : World) (hi : i < n) (hn : n ≤ 1000000) (ha : w.cell? ⟨Ba, 0, none⟩ = some (.int .u32 i)) (hd : w.cell? ⟨Bd, 0, none⟩ = some (.pointer (some ⟨B, 0, none⟩)))
    (hs : w.cell? ⟨B, 1, none⟩ = some (.slice (some ⟨g, 0, none⟩) n c)) (hx : w.cell? ⟨g, i * 5 + 4, none⟩ = some (.int .u32 0)) (b1 : Ba < w.heap.size) (b2 : Bd < w.heap.size) (b3 : B < w.heap.size) (b4 : g < w.heap.size) :
    SeqStopsK Fence.wide 4 Try.prog 24 #[.pointer (some ⟨Ba, 0, none⟩), .pointer (some ⟨Bd, 0, none⟩)] noArgs (Below n0) (fun ys => ys = []) (fun _ => False) 0 w := by
  intro l J Jx W hW hJ _ _ h0
  refine (callsIn_wide.2 (member1_any l Ba Bd B g i n c W hi hn ((hW.cell (p := ⟨Ba, 0, none⟩) b1).trans ha) ((hW.cell (p := ⟨Bd, 0, none⟩) b2).trans hd) ((hW.cell (p := ⟨B, 1, none⟩) b3).trans hs) ((hW.cell (p := ⟨g, i * 5 + 4, none⟩) b4).trans hx))).mono ?_
  rintro e W' ⟨rfl, m, rfl⟩
  exact ⟨⟨_, rfl⟩, .inl ⟨[], rfl, hJ [] W (W.drewN m) none h0 ⟨rfl, rfl, rfl, Nat.le_refl _, fun _ _ _ => rfl⟩ (fun r e => by cases e)⟩⟩

theorem element_stops (Ba Bd B g i n c n0 : Nat) (w : World) (hi : i < n) (hn : n ≤ 1000000) (ha : w.cell? ⟨Ba, 0, none⟩ = some (.int .u32 i)) (hd : w.cell? ⟨Bd, 0, none⟩ = some (.pointer (some ⟨B, 0, none⟩)))
    (hs : w.cell? ⟨B, 1, none⟩ = some (.slice (some ⟨g, 0, none⟩) n c)) (hx : w.cell? ⟨g, i * 5 + 4, none⟩ = some (.int .u32 0)) (b1 : Ba < w.heap.size) (b2 : Bd < w.heap.size) (b3 : B < w.heap.size) (b4 : g < w.heap.size) :
    SeqStopsK Fence.wide 4 Try.prog 25 #[.pointer (some ⟨Ba, 0, none⟩), .pointer (some ⟨Bd, 0, none⟩)] noArgs (Below n0) (fun ys => ys = []) (fun _ => False) 0 w := by
  intro l J Jx W hW hJ _ _ h0
  refine (callsIn_wide.2 (element1_any l Ba Bd B g i n c W hi hn ((hW.cell (p := ⟨Ba, 0, none⟩) b1).trans ha) ((hW.cell (p := ⟨Bd, 0, none⟩) b2).trans hd) ((hW.cell (p := ⟨B, 1, none⟩) b3).trans hs) ((hW.cell (p := ⟨g, i * 5 + 4, none⟩) b4).trans hx))).mono ?_
  rintro e W' ⟨rfl, m, rfl⟩
  exact ⟨⟨_, rfl⟩, .inl ⟨[], rfl, hJ [] W (W.drewN m) none h0 ⟨rfl, rfl, rfl, Nat.le_refl _, fun _ _ _ => rfl⟩ (fun r e => by cases e)⟩⟩

set_option maxRecDepth 100000 in
set_option maxHeartbeats 2000000 in
theorem count20_in (B i : Nat) (ks : List Int) (v : Value) (pos : Int) (w : World) (h : St w B ks v pos) (hi : i < ks.length) (hn : ks.length ≤ 1000000) :
    CallsIn Fence.wide 5 Try.prog 20 #[.pointer (some ⟨B, 0, none⟩), .int .u32 i] w fun e w' => e = .returned (.int .i64 0) ∧ Below w.heap.size w w' := by
  obtain ⟨g, c, hv, hg, hc, hx⟩ := h.node hi
  have hd := h.nodes
  have hs := h.size
  obtain ⟨k, hk⟩ : ∃ k, ks.getD i 0 = k := ⟨_, rfl⟩
  rw [hk] at hc
  clear hk h
  subst hv
  have hA1 : ∀ o, (w.alloc o).cell? ⟨B, 1, none⟩ = some (.slice (some ⟨g, 0, none⟩) ks.length c) := fun o => (World.cell?_alloc_lt (h := by show B < _; omega) ..).trans hd
  have hA2 : ∀ o, (w.alloc o).cell? ⟨g, i * 5, none⟩ = some (.int .u8 k) := fun o => (World.cell?_alloc_lt (h := by exact hg) ..).trans hc
  have hi' : (i : Int) < (ks.length : Int) := by omega
  have hro : Fence.wide.round = none := rfl
  by_cases h6 : k = 6
  · subst h6
    refine callsIn_of_wp_marks Try.func20 rfl trivial ?_ hro
    simp only [Try.ntmps20, List.size_toArray, List.length_cons, List.length_nil, Nat.reduceAdd, Nat.reduceSub, Array.replicate_succ, Array.replicate_zero, List.push_toArray, List.append_toArray, List.nil_append, List.cons_append]
    gi_wp2_with fail
    refine ⟨trivial, ?_⟩
    refine (callsIn_wide.2 (members_any B i _)).mono ?_
    rintro e w' ⟨rfl, hw⟩
    obtain ⟨W3, hW3⟩ : ∃ W3, W3 = w' := ⟨_, rfl⟩
    subst hW3
    have hB3 : Below w.heap.size w W3 := by rw [hw]; exact (((Below.refl _ _).alloc (Nat.le_refl _) _).alloc (by simp) _).alloc (by simp; omega) _
    have z3 : W3.heap.size = w.heap.size + 3 := by rw [hw]; simp
    have r1 : W3.rowIs w.heap.size 3 1 (fun _ => .int .i64 0) := by rw [hw]; exact ((box_new w _ 3).alloc _).alloc _
    have r2 : W3.rowIs (w.heap.size + 1) 29 1 (fun _ => .pointer (some ⟨B, 0, none⟩)) := by
      have e := box_new (w.alloc (.cells #[.int .i64 0] 3)) (.pointer (some ⟨B, 0, none⟩)) 29
      rw [World.size_alloc] at e
      rw [hw]; exact e.alloc _
    have r3 : W3.rowIs (w.heap.size + 1 + 1) 24 1 (fun _ => .int .u32 i) := by
      have e := box_new ((w.alloc (.cells #[.int .i64 0] 3)).alloc (.cells #[.pointer (some ⟨B, 0, none⟩)] 29)) (.int .u32 i) 24
      rw [World.size_alloc, World.size_alloc] at e
      rw [hw]; exact e
    have k1 : W3.cell? ⟨w.heap.size, 0, none⟩ = some (.int .i64 0) := r1.cell (by omega)
    have k2 : W3.frozen? ⟨w.heap.size, 0, none⟩ = false := r1.frozen 0
    have k3 : W3.cell? ⟨w.heap.size + 1, 0, none⟩ = some (.pointer (some ⟨B, 0, none⟩)) := r2.cell (by omega)
    have k4 : W3.cell? ⟨w.heap.size + 1 + 1, 0, none⟩ = some (.int .u32 i) := r3.cell (by omega)
    clear r1 r2 r3
    have k5 := (hB3.cell (p := ⟨B, 1, none⟩) (by show B < _; omega)).trans hd
    have k6 := (hB3.cell (p := ⟨g, i * 5 + 4, none⟩) hg).trans hx
    have Z3 : Hid (W3.heap.size = w.heap.size + 3) := z3
    clear hw z3
    gi_wp2
    refine wpIn_rangeFunc_ownF (α := Empty) hro (by omega) (gf := 24) (lb := #[.pointer (some ⟨w.heap.size + 1 + 1, 0, none⟩), .pointer (some ⟨w.heap.size + 1, 0, none⟩)]) rfl trivial (enters_of Try.func24 (by kernel_rfl) rfl)
      (member_stops (w.heap.size + 1 + 1) (w.heap.size + 1) B g i ks.length c w.heap.size W3 hi hn k4 k3 k5 k6 (by have := Z3.out; omega) (by have := Z3.out; omega) (by have := Z3.out; omega) (by have := Z3.out; omega))
      belowK_t (belowK_b (by have := Z3.out; omega)) (Below.refl _ _) (fun x => x.elim)
      (fun _ W => (W.cell? ⟨w.heap.size, 0, none⟩ = some (.int .i64 0) ∧ W.frozen? ⟨w.heap.size, 0, none⟩ = false) ∧ Below w.heap.size w W)
      (fun _ _ _ => False)
      (OwnFrom.and (Own.from (fun s A B row hs hg hr => ⟨cell_kept hs.1 hg hr, (frozen_kept hs.1 hg hr).trans hs.2⟩) _) (ownFrom_below (Nat.le_refl _) (by have := Z3.out; omega)))
      (fun _ _ _ _ _ hs _ _ => hs)
      ⟨⟨k1, k2⟩, hB3⟩
      (fun x => x.elim) ?assign ?body ?done ?stop
    case assign => intro l x; exact x.elim
    case body => intro l pre x; exact x.elim
    case done =>
      rintro D ys W hD rfl ⟨⟨hcW, _⟩, hB⟩ hK
      gi_wp2
      refine ⟨by simp, .inl ⟨_, _, rfl, run_takeDeferred hK, ?_⟩⟩
      exact ⟨_, results_tmp rfl _ _ _, rfl, hB.trans (belowK_b (w := w) (Nat.le_refl _) W D _ _ (by have := Z3.out; omega) hK rfl rfl)⟩
    case stop =>
      rintro D c pre W _ _ h _
      exact h.elim
  · have e6 : (k == 6) = false := by simpa using h6
    clear h6
    refine callsIn_of_wp_marks Try.func20 rfl trivial ?_ hro
    simp only [Try.ntmps20, List.size_toArray, List.length_cons, List.length_nil, Nat.reduceAdd, Nat.reduceSub, Array.replicate_succ, Array.replicate_zero, List.push_toArray, List.append_toArray, List.nil_append, List.cons_append]
    gi_wp2_with fail
    refine ⟨trivial, ?_⟩
    refine (callsIn_wide.2 (elements_any B i _)).mono ?_
    rintro e w' ⟨rfl, hw⟩
    obtain ⟨W3, hW3⟩ : ∃ W3, W3 = w' := ⟨_, rfl⟩
    subst hW3
    have hB3 : Below w.heap.size w W3 := by rw [hw]; exact (((Below.refl _ _).alloc (Nat.le_refl _) _).alloc (by simp) _).alloc (by simp; omega) _
    have z3 : W3.heap.size = w.heap.size + 3 := by rw [hw]; simp
    have r1 : W3.rowIs w.heap.size 3 1 (fun _ => .int .i64 0) := by rw [hw]; exact ((box_new w _ 3).alloc _).alloc _
    have r2 : W3.rowIs (w.heap.size + 1) 29 1 (fun _ => .pointer (some ⟨B, 0, none⟩)) := by
      have e := box_new (w.alloc (.cells #[.int .i64 0] 3)) (.pointer (some ⟨B, 0, none⟩)) 29
      rw [World.size_alloc] at e
      rw [hw]; exact e.alloc _
    have r3 : W3.rowIs (w.heap.size + 1 + 1) 24 1 (fun _ => .int .u32 i) := by
      have e := box_new ((w.alloc (.cells #[.int .i64 0] 3)).alloc (.cells #[.pointer (some ⟨B, 0, none⟩)] 29)) (.int .u32 i) 24
      rw [World.size_alloc, World.size_alloc] at e
      rw [hw]; exact e
    have k1 : W3.cell? ⟨w.heap.size, 0, none⟩ = some (.int .i64 0) := r1.cell (by omega)
    have k2 : W3.frozen? ⟨w.heap.size, 0, none⟩ = false := r1.frozen 0
    have k3 : W3.cell? ⟨w.heap.size + 1, 0, none⟩ = some (.pointer (some ⟨B, 0, none⟩)) := r2.cell (by omega)
    have k4 : W3.cell? ⟨w.heap.size + 1 + 1, 0, none⟩ = some (.int .u32 i) := r3.cell (by omega)
    clear r1 r2 r3
    have k5 := (hB3.cell (p := ⟨B, 1, none⟩) (by show B < _; omega)).trans hd
    have k6 := (hB3.cell (p := ⟨g, i * 5 + 4, none⟩) hg).trans hx
    have Z3 : Hid (W3.heap.size = w.heap.size + 3) := z3
    clear hw z3
    gi_wp2
    refine wpIn_rangeFunc_ownF (α := Empty) hro (by omega) (gf := 25) (lb := #[.pointer (some ⟨w.heap.size + 1 + 1, 0, none⟩), .pointer (some ⟨w.heap.size + 1, 0, none⟩)]) rfl trivial (enters_of Try.func25 (by kernel_rfl) rfl)
      (element_stops (w.heap.size + 1 + 1) (w.heap.size + 1) B g i ks.length c w.heap.size W3 hi hn k4 k3 k5 k6 (by have := Z3.out; omega) (by have := Z3.out; omega) (by have := Z3.out; omega) (by have := Z3.out; omega))
      belowK_t (belowK_b (by have := Z3.out; omega)) (Below.refl _ _) (fun x => x.elim)
      (fun _ W => (W.cell? ⟨w.heap.size, 0, none⟩ = some (.int .i64 0) ∧ W.frozen? ⟨w.heap.size, 0, none⟩ = false) ∧ Below w.heap.size w W)
      (fun _ _ _ => False)
      (OwnFrom.and (Own.from (fun s A B row hs hg hr => ⟨cell_kept hs.1 hg hr, (frozen_kept hs.1 hg hr).trans hs.2⟩) _) (ownFrom_below (Nat.le_refl _) (by have := Z3.out; omega)))
      (fun _ _ _ _ _ hs _ _ => hs)
      ⟨⟨k1, k2⟩, hB3⟩
      (fun x => x.elim) ?assign ?body ?done ?stop
    case assign => intro l x; exact x.elim
    case body => intro l pre x; exact x.elim
    case done =>
      rintro D ys W hD rfl ⟨⟨hcW, _⟩, hB⟩ hK
      gi_wp2
      refine ⟨by simp, .inl ⟨_, _, rfl, run_takeDeferred hK, ?_⟩⟩
      exact ⟨_, results_tmp rfl _ _ _, rfl, hB.trans (belowK_b (w := w) (Nat.le_refl _) W D _ _ (by have := Z3.out; omega) hK rfl rfl)⟩
    case stop =>
      rintro D c pre W _ _ h _
      exact h.elim

theorem count20_any (B i : Nat) (ks : List Int) (v : Value) (pos : Int) (w : World) (h : St w B ks v pos) (hi : i < ks.length) (hn : ks.length ≤ 1000000) :
    Calls Try.prog 20 #[.pointer (some ⟨B, 0, none⟩), .int .u32 i] w fun e w' => e = .returned (.int .i64 0) ∧ Below w.heap.size w w' :=
  callsIn_wide.1 (count20_in B i ks v pos w h hi hn)
end Go.Proofs.Qxb6603622a

import Derived.Test.Qxb6604446aRows
import Derived.Test.Qxb6604446aPlain
import Derived.WalkKit
import Derived.ProofKit
import Derived.OpenShut
import Derived.Laws.LoneSync
namespace Go.Proofs.Qxb6604446a
open Go.ChangeShapes Go.WideShapes Go.ChangeAt Go.RowKit

theorem store_any (b off : Nat) (x y : Int) (w : World) (hc : w.cell? ⟨b, off, none⟩ = some (.int .u32 x)) (hz : w.frozen? ⟨b, off, none⟩ = false) :
    Calls Try.prog 15 #[.pointer (some ⟨b, off, none⟩), .int .u32 y] w fun e w' => e = .returned (.tuple #[]) ∧ w' = w.setCell ⟨b, off, none⟩ (.int .u32 y) := by
  have hst := run_call_store (P := Try.prog) Try.func18 (by kernel_rfl) (by kernel_rfl) (by kernel_rfl) (by kernel_rfl) (k := .u32) (y := y) hc hz
  go_enter Try.func15, Try.ntmps15
  go_wp2
  go_end0
  exact ⟨rfl, rfl⟩

theorem load_any (b off : Nat) (x : Int) (w : World) (hc : w.cell? ⟨b, off, none⟩ = some (.int .u32 x)) :
    Calls Try.prog 23 #[.pointer (some ⟨b, off, none⟩)] w fun e w' => e = .returned (.int .u32 x) ∧ w' = w := by
  have hl := run_call_load (P := Try.prog) Try.func26 (by kernel_rfl) (by kernel_rfl) (by kernel_rfl) .u32 (by kernel_rfl) hc
  go_enter Try.func23, Try.ntmps23
  go_wp2
  go_ret
  exact ⟨rfl, rfl⟩

theorem load19_any (b : Nat) (x : Int) (w : World) (hc : w.cell? ⟨b, 0, none⟩ = some (.int .u32 x)) :
    Calls Try.prog 19 #[.pointer (some ⟨b, 0, none⟩)] w fun e w' => e = .returned (.int .u32 x) ∧ w' = w := by
  go_enter Try.func19, Try.ntmps19
  go_wp2_with (go_at_call 23; refine (load_any b 0 x _ hc).mono ?_; rintro e w' ⟨rfl, rfl⟩)
  go_ret
  exact ⟨rfl, rfl⟩

theorem done_any (b : Nat) (x : Int) (w : World) (hc : w.cell? ⟨b, 0, none⟩ = some (.int .u32 x)) :
    Calls Try.prog 16 #[.pointer (some ⟨b, 0, none⟩)] w fun e w' => e = .returned (.bool (x == 1)) ∧ w' = w := by
  go_enter Try.func16, Try.ntmps16
  go_wp2_with (go_at_call 19; refine (load19_any b x _ hc).mono ?_; rintro e w' ⟨rfl, rfl⟩)
  go_ret
  exact ⟨rfl, rfl⟩

theorem isdone_any (x : Int) (w : World) :
    Calls Try.prog 11 #[.int .u32 x] w fun e w' => e = .returned (.bool (x == 1)) ∧ Grown w w' := by
  go_enter Try.func11, Try.ntmps11
  go_wp2_with fail
  refine (store_any w.heap.size 0 0 x (w.alloc (.cells #[.int .u32 0] 38)) (by simp) (by simp)).mono ?_
  rintro e w1 ⟨rfl, hw1⟩
  have hc1 : w1.cell? ⟨w.heap.size, 0, none⟩ = some (.int .u32 x) := by rw [hw1]; exact World.cell?_setCell_same (u := .int .u32 0) (h := by simp) ..
  have hg1 : Grown w w1 := by rw [hw1]; exact ((Grown.refl w).alloc _ _).setCell (by exact Nat.le_refl _) _
  clear hw1
  go_wp2_with fail
  refine (done_any w.heap.size x w1 hc1).mono ?_
  rintro e w2 ⟨rfl, hw2⟩
  obtain rfl := hw2.symm
  go_wp2
  go_ret
  exact ⟨rfl, hg1⟩
end Go.Proofs.Qxb6604446a

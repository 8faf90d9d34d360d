import Derived.Test.Qxb6603768aRemove
import Derived.BigQuiet
import Derived.Deep.QuietTactic
namespace Go.Proofs.Qxb6603768a
open Go.ChangeShapes Go.WideShapes Go.ChangeAt Go.RowKit

theorem ids_any (D g : Nat) (M : List ByteArray) (w : World) (hd : DocAt w D g M) :
    Calls Try.prog 20 #[.pointer (some ⟨D, 0, none⟩)] w fun e w' => ∃ a' c', e = .returned (.slice a' M.length c') ∧ StrsAt w' a' M ∧ Below w.heap.size w w' := by
  obtain ⟨L, cap, hn, hcap, hL, hD, hg⟩ := hd
  have hDlt := hD.lt
  have hglt := hg.lt
  have hc6 : w.cell? ⟨D, 6, none⟩ = some (.slice (some ⟨g, 0, none⟩) M.length cap) := hD.cell (by omega)
  have hmk := run_make_row' (P := Try.prog) 25 9 (.string ByteArray.empty) 16 Try.underlying25 Try.info9 rfl .i64 .i64 M.length (by omega) (by omega)
  go_enter Try.func20, Try.ntmps20
  go_wp2
  go_loopw [4] (fun i wr => ∃ k : Nat, k ≤ M.length ∧ i = .int .i64 k ∧ wr.rowIs w.heap.size 9 M.length (part M k) ∧ Below w.heap.size w wr) (fun i _ => M.length - (intOf i).toNat)
  case atStart => exact ⟨0, Nat.zero_le _, rfl, (World.rowIs_made w (.string ByteArray.empty) M.length 9).congr (fun j _ => by simp [part]), (Below.refl _ _).alloc (Nat.le_refl _) _⟩
  case round =>
    obtain ⟨k, hk, rfl, hrow, hb⟩ := hrel
    have d6 : wr.cell? ⟨D, 6, none⟩ = some (.slice (some ⟨g, 0, none⟩) M.length cap) := (hb.cell (p := ⟨D, 6, none⟩) hDlt).trans hc6
    by_cases hlt : k < M.length
    · obtain ⟨s, hsk⟩ : ∃ s, L k = s := ⟨_, rfl⟩
      obtain ⟨c0, -⟩ := nine (hg.of_block (w' := wr) (hb.block g hglt)) (show k < cap by omega)
      rw [hsk] at c0
      have hsk' : M.getD k ByteArray.empty = s := by rw [← hL k hlt]; exact hsk
      have hdc := hrow.cell hlt
      have hf := hrow.frozen k
      have R1 : Hid (_) := part_step hrow hsk'
      have R2 : Hid (_) := hb.setCell (p := ⟨w.heap.size, k, none⟩) (Nat.le_refl _) (.string s)
      clear hsk hsk' hc6 hrow hb hL
      go_wp2
      go_roundw
      case rel => exact ⟨k + 1, by omega, by go_num, R1, R2⟩
      case measure => simp [intOf]; omega
    · obtain rfl : k = M.length := by omega
      have R1 := strsAt_row hrow
      go_wp2
      go_ret
      exact ⟨_, _, rfl, R1, hb⟩

/-! ### plain: counting and filtering -/
theorem take_snoc (l : List ByteArray) (k : Nat) (h : k < l.length) : l.take (k + 1) = l.take k ++ [l.getD k ByteArray.empty] := by
  rw [List.take_succ_eq_append_getElem h, List.getD_eq_getElem?_getD, List.getElem?_eq_getElem h]; rfl

theorem filter_at (p : ByteArray → Bool) : ∀ (l : List ByteArray) (k : Nat), k < l.length → p (l.getD k ByteArray.empty) = true →
    ((l.take k).filter p).length < (l.filter p).length ∧ (l.filter p).getD ((l.take k).filter p).length ByteArray.empty = l.getD k ByteArray.empty := by
  intro l k hk hp
  have e1 : l = l.take k ++ l.getD k ByteArray.empty :: l.drop (k + 1) := (erase_split hk).1
  have e2 : l.filter p = (l.take k).filter p ++ l.getD k ByteArray.empty :: (l.drop (k + 1)).filter p := by
    have : l.filter p = (l.take k ++ l.getD k ByteArray.empty :: l.drop (k + 1)).filter p := by rw [← e1]
    rw [this, List.filter_append, List.filter_cons, if_pos hp]
  rw [e2]
  refine ⟨by simp, ?_⟩
  rw [List.getD_eq_getElem?_getD, List.getElem?_append_right (Nat.le_refl _)]
  simp
end Go.Proofs.Qxb6603768a

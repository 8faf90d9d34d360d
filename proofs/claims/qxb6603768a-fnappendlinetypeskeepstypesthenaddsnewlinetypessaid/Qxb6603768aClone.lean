import Derived.Test.Qxb6603768aBase
import Derived.WalkSpells
import Derived.Lib.SliceRun
namespace Go.Proofs.Qxb6603768a
open Go.ChangeShapes Go.WideShapes Go.ChangeAt Go.RowKit

theorem Try.info9 : (Try.prog.info? 9).map (fun i => (i.zero, i.size, i.bytes)) = some (some (.string ByteArray.empty), 1, 16) := by kernel_rfl

/-- What the first k cells of a row of strings hold when l is copied into it. -/
def part (l : List ByteArray) (k : Nat) (j : Nat) : Value := .string (if j < k then l.getD j ByteArray.empty else ByteArray.empty)

theorem part_step {w : World} {l : List ByteArray} {k n G : Nat} {s : ByteArray} (h : w.rowIs G 9 n (part l k)) (hs : l.getD k ByteArray.empty = s) : (w.setCell ⟨G, k, none⟩ (.string s)).rowIs G 9 n (part l (k + 1)) := by
  refine (h.set k (.string s)).congr fun j hj => ?_
  unfold part
  by_cases e : j = k
  · subst e; rw [if_pos rfl, if_pos (by omega), hs]
  · rw [if_neg e]
    by_cases h1 : j < k
    · rw [if_pos h1, if_pos (by omega)]
    · rw [if_neg h1, if_neg (by omega)]

theorem strsAt_row {w : World} {l : List ByteArray} {G : Nat} (h : w.rowIs G 9 l.length (part l l.length)) : StrsAt w (some ⟨G, 0, none⟩) l := by
  intro i hi
  refine ⟨G, 0, rfl, h.lt, ?_⟩
  rw [Nat.zero_add, h.cell hi]
  unfold part
  rw [if_pos hi]

theorem clone_any (a : Option Addr) (cap : Nat) (l : List ByteArray) (w : World) (hs : StrsAt w a l) (hl : l.length ≤ 4096) :
    Calls Try.prog 14 #[.slice a l.length cap] w fun e w' => ∃ a' c', e = .returned (.slice a' l.length c') ∧ StrsAt w' a' l ∧ Below w.heap.size w w' := by
  have q25 : ∀ (w : World) (a : Option Addr) (n c n' c' : Nat), (binOp .eql 25 (.slice a n c) (.slice none n' c')).run Try.prog w = .ok (.bool a.isNone) w := fun w a n c n' c' => Lib.run_eql_slice_nil w _ _ a n c n' c' Try.underlying25
  cases a with
  | none =>
    have h0 : l = [] := by
      cases l with
      | nil => rfl
      | cons x xs => obtain ⟨b, off, e, _⟩ := hs 0 (by simp); simp at e
    subst h0
    go_enter Try.func14, Try.ntmps14
    go_wp2
    go_ret
    exact ⟨none, 0, rfl, hs, Below.refl _ _⟩
  | some x =>
    have hmk := run_make_row' (P := Try.prog) 25 9 (.string ByteArray.empty) 16 Try.underlying25 Try.info9 rfl .i64 .i64 l.length (by omega) (by omega)
    go_enter Try.func14, Try.ntmps14
    go_wp2
    go_loopw [4] (fun i wr => ∃ k : Nat, k ≤ l.length ∧ i = .int .i64 k ∧ wr.rowIs w.heap.size 9 l.length (part l k) ∧ Below w.heap.size w wr) (fun i _ => l.length - (intOf i).toNat)
    case atStart => exact ⟨0, Nat.zero_le _, rfl, (World.rowIs_made w (.string ByteArray.empty) l.length 9).congr (fun j _ => by simp [part]), (Below.refl _ _).alloc (Nat.le_refl _) _⟩
    case round =>
      obtain ⟨k, hk, rfl, hrow, hb⟩ := hrel
      by_cases hlt : k < l.length
      · obtain ⟨b, off, e, hbl, hc⟩ := hs k hlt
        obtain rfl : x = ⟨b, off, none⟩ := by simpa using e
        obtain ⟨s, hsk⟩ : ∃ s, l.getD k ByteArray.empty = s := ⟨_, rfl⟩
        rw [hsk] at hc
        have hc' : wr.cell? ⟨b, off + k, none⟩ = some (.string s) := (hb.cell (p := ⟨b, off + k, none⟩) hbl).trans hc
        have hd := hrow.cell hlt
        have hf := hrow.frozen k
        have R1 : Hid (_) := part_step hrow hsk
        have R2 : Hid (_) := hb.setCell (p := ⟨w.heap.size, k, none⟩) (Nat.le_refl _) (.string s)
        clear hsk hs hc hrow hb e
        go_wp2
        go_roundw
        case rel => exact ⟨k + 1, by omega, by go_num, R1, R2⟩
        case measure => simp [intOf]; omega
      · obtain rfl : k = l.length := by omega
        have R1 := strsAt_row hrow
        go_wp2
        go_ret
        exact ⟨_, _, rfl, R1, hb⟩
end Go.Proofs.Qxb6603768a

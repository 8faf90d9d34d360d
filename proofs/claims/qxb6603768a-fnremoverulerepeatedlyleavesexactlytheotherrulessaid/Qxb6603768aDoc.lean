import Derived.Test.Qxb6603768aClone
import Derived.Outline
namespace Go.Proofs.Qxb6603768a
open Go.ChangeShapes Go.WideShapes Go.ChangeAt Go.RowKit

def zeroRule : Value := .agg #[.string ByteArray.empty, .string ByteArray.empty, .string ByteArray.empty, .pointer none, .pointer none, .slice none 0 0, .string ByteArray.empty, .pointer none, .pointer none]
theorem Try.info48 : (Try.prog.info? 48).map (fun i => (i.zero, i.size, i.bytes)) = some (some zeroRule, 9, 120) := by kernel_rfl

/-- Cell j of a rule whose ID is s and whose other fields are zero. -/
def rowc (s : ByteArray) (j : Nat) : Value :=
  if j = 0 then .string s else if j = 3 ∨ j = 4 ∨ j = 7 ∨ j = 8 then .pointer none else if j = 5 then .slice none 0 0 else .string ByteArray.empty

/-- The cells that make([]ruleTable, n) lays. -/
def ruleBlock (n : Nat) : Array Value := madeCells zeroRule.cells (n * 9)

/-- make([]ruleTable, n) -/
theorem make44 (n : Nat) (hn : n ≤ 4096) (w : World) :
    (Instr.makeSlice 44 (.int .i64 (n : Int)) (.int .i64 (n : Int))).run Try.prog w = .ok (.slice (some ⟨w.heap.size, 0, none⟩) n n) (w.alloc (.cells (ruleBlock n) 48)) := by
  obtain ⟨i, hi, hz, h1, h2⟩ := info_parts Try.info48
  have hr := run_make (P := Try.prog) w 44 48 i zeroRule Try.underlying44 hi hz .i64 .i64 n n (by omega) (Int.le_refl _) (by rw [h2]; omega) (by omega)
  rw [h1] at hr
  simpa [ruleBlock] using hr

/-- The cells of a row of rules with the IDs L. -/
def cellsOf (L : Nat → ByteArray) (i : Nat) : Value := rowc (L (i / 9)) (i % 9)

theorem made48 (w : World) (n : Nat) : (w.alloc (.cells (ruleBlock n) 48)).rowIs w.heap.size 48 (n * 9) (cellsOf fun _ => ByteArray.empty) := by
  have hs := World.rowIs_alloc w (madeCells zeroRule.cells (n * 9)) 48 (cellsOf fun _ => ByteArray.empty) (fun i hi => by
    rw [size_madeCells] at hi
    have hz : zeroRule.cells.size = 9 := rfl
    have hm : i % 9 < 9 := Nat.mod_lt _ (by omega)
    simp only [madeCells, Array.getElem?_map, Array.getElem?_range, hi, if_true, Option.map_some, hz]
    unfold cellsOf
    congr 1
    generalize i % 9 = j at hm
    match j, hm with
    | 0, _ => rfl
    | 1, _ => rfl
    | 2, _ => rfl
    | 3, _ => rfl
    | 4, _ => rfl
    | 5, _ => rfl
    | 6, _ => rfl
    | 7, _ => rfl
    | 8, _ => rfl)
  rw [size_madeCells] at hs
  exact hs

def upto (l : List ByteArray) (k i : Nat) : ByteArray := if i < k then l.getD i ByteArray.empty else ByteArray.empty

theorem upto_step {w : World} {l : List ByteArray} {k n G : Nat} {s : ByteArray} (h : w.rowIs G 48 (n * 9) (cellsOf (upto l k))) (hs : l.getD k ByteArray.empty = s) :
    (w.setCell ⟨G, k * 9, none⟩ (.string s)).rowIs G 48 (n * 9) (cellsOf (upto l (k + 1))) := by
  refine (h.set (k * 9) (.string s)).congr fun j hj => ?_
  unfold cellsOf upto
  by_cases e : j = k * 9
  · subst e
    rw [if_pos rfl, Nat.mul_div_cancel _ (by omega), Nat.mul_mod_left, if_pos (by omega), hs]
    rfl
  · rw [if_neg e]
    by_cases h1 : j / 9 = k
    · have h2 : j % 9 ≠ 0 := by omega
      unfold rowc
      rw [if_neg h2, if_neg h2]
    · by_cases h3 : j / 9 < k
      · rw [if_pos h3, if_pos (by omega)]
      · rw [if_neg h3, if_neg (by omega)]

/-- The cells of a Document that holds the n rules of the row g. -/
def docCells (g n cap i : Nat) : Value := if i = 6 then .slice (some ⟨g, 0, none⟩) n cap else .slice none 0 0

/-- At block D lies a Document whose rules, in the row g, have the IDs M. -/
def DocAt (w : World) (D g : Nat) (M : List ByteArray) : Prop :=
  ∃ (L : Nat → ByteArray) (cap : Nat), M.length ≤ cap ∧ cap ≤ 4096 ∧ (∀ i, i < M.length → L i = M.getD i ByteArray.empty) ∧
    w.rowIs D 58 7 (docCells g M.length cap) ∧ w.rowIs g 48 (cap * 9) (cellsOf L)

theorem newdoc_any (a : Option Addr) (cap : Nat) (l : List ByteArray) (w : World) (hs : StrsAt w a l) (hl : l.length ≤ 4096) :
    Calls Try.prog 18 #[.slice a l.length cap] w fun e w' => ∃ D g, e = .returned (.pointer (some ⟨D, 0, none⟩)) ∧ w.heap.size ≤ D ∧ w.heap.size ≤ g ∧ DocAt w' D g l ∧ Below w.heap.size w w' := by
  have hmk := make44 l.length hl
  go_enter Try.func18, Try.ntmps18
  go_wp2
  go_loopw [4] (fun i wr => ∃ k : Nat, k ≤ l.length ∧ i = .int .i64 k ∧ wr.rowIs w.heap.size 48 (l.length * 9) (cellsOf (upto l k)) ∧ Below w.heap.size w wr) (fun i _ => l.length - (intOf i).toNat)
  case atStart => exact ⟨0, Nat.zero_le _, rfl, (made48 w l.length).congr (fun j _ => by simp [upto, cellsOf]), (Below.refl _ _).alloc (Nat.le_refl _) _⟩
  case round =>
    obtain ⟨k, hk, rfl, hrow, hb⟩ := hrel
    by_cases hlt : k < l.length
    · obtain ⟨b, off, rfl, hbl, hc⟩ := hs k hlt
      obtain ⟨s, hsk⟩ : ∃ s, l.getD k ByteArray.empty = s := ⟨_, rfl⟩
      rw [hsk] at hc
      have hc' : wr.cell? ⟨b, off + k, none⟩ = some (.string s) := (hb.cell (p := ⟨b, off + k, none⟩) hbl).trans hc
      have hd := hrow.cell (i := k * 9) (by omega)
      have hf := hrow.frozen (k * 9)
      have R1 : Hid (_) := upto_step hrow hsk
      have R2 : Hid (_) := hb.setCell (p := ⟨w.heap.size, k * 9, none⟩) (Nat.le_refl _) (.string s)
      clear hsk hs hc hrow hb
      go_wp2
      go_roundw
      case rel => exact ⟨k + 1, by omega, by go_num, R1, R2⟩
      case measure => simp [intOf]; omega
    · obtain rfl : k = l.length := by omega
      go_wp2
      go_ret
      refine ⟨_, w.heap.size, rfl, hb.size, Nat.le_refl _, ⟨upto l l.length, l.length, Nat.le_refl _, hl, fun i hi => ?_, ?_, hrow.alloc _⟩, hb.alloc hb.size _⟩
      · unfold upto; rw [if_pos hi]
      · refine World.rowIs_alloc wr _ 58 _ fun i hi => ?_
        have hi' : i < 7 := hi
        match i, hi' with
        | 0, _ => rfl
        | 1, _ => rfl
        | 2, _ => rfl
        | 3, _ => rfl
        | 4, _ => rfl
        | 5, _ => rfl
        | 6, _ => rfl
end Go.Proofs.Qxb6603768a

import Derived.Test.Qxb6603768aBase
import Derived.SliceStrings
import Derived.ShutString
import Derived.ChangeOld
namespace Go.Proofs.Qxb6603768a
open Go.ChangeShapes Go.WideShapes Go.ChangeAt Go.RowKit
open Go.ChangeMaps (open_string shut_string)

theorem own : ownKnob Try.prog.godebug = none := by kernel_rfl
theorem laidOut : laidOutB Try.prog = true := by kernel_rfl

theorem cell_lt {W : World} {b o : Nat} {v : Value} (h : W.cell? ⟨b, o, none⟩ = some v) : b < W.heap.size := by
  by_cases hb : b < W.heap.size
  · exact hb
  · have e : W.heap[b]? = none := Array.getElem?_eq_none (by omega)
    simp [World.cell?, e] at h

theorem strs_at {W : World} {x : Addr} {ss : List ByteArray} (h : ∀ i, i < ss.length → W.cell? (x.add i) = some (.string (ss.getD i ByteArray.empty))) {len : Nat} (hl : len ≤ ss.length) : StrsAt W (some x) (ss.take len) := by
  intro i hi
  rw [List.length_take] at hi
  obtain ⟨b, off, spot⟩ := x
  have hspot : spot = none := by simpa [Addr.add] using World.cell?_spot (h 0 (by omega))
  subst hspot
  have hc := h i (by omega)
  rw [Go.WideShapes.add_plain] at hc
  have e : (ss.take len).getD i ByteArray.empty = ss.getD i ByteArray.empty := by
    simp only [List.getD_eq_getElem?_getD, List.getElem?_take, if_pos (show i < len by omega)]
  exact ⟨b, off, rfl, cell_lt hc, by rw [e]; exact hc⟩

variable {H : Type} {enc : TypeId × Value → H}

/-- A []string that came in: the walk's word for it. -/
theorem open_row {W : World} {base : Nat} {spare : Nat → Bool} {held : Bool} {a : Option Addr} {len cap : Nat} {d : DataW H} {p : List MemPlace}
    (hsp : ∀ b, spare b = true) (h : DataW.Trod enc Try.prog W base spare held 25 (.slice a len cap) d p) :
    ∃ l : List ByteArray, l.length = len ∧ StrsAt W a l ∧ l.length ≤ 9223372036854775807 := by
  obtain ⟨fuel, hf⟩ := h
  rcases open_strings Try.underlying25 Try.underlying9 (by kernel_rfl) hf with ⟨hcs, _⟩ | ⟨x, l, c, ss, hcs, _, hl, hm, hz, _, hcell, _⟩
  · simp [Value.cells] at hcs
    obtain ⟨rfl, rfl, rfl⟩ := hcs
    exact ⟨[], rfl, fun i hi => by simp at hi, by simp⟩
  · simp [Value.cells] at hcs
    obtain ⟨rfl, rfl, rfl⟩ := hcs
    rw [hsp, if_pos rfl] at hz
    unfold maxLen at hm
    have hlen : (ss.take len).length = len := by rw [List.length_take]; omega
    exact ⟨ss.take len, hlen, strs_at hcell (by omega), by omega⟩
end Go.Proofs.Qxb6603768a

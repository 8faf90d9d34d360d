import Derived.Test.Qxb6603768aRows
import Derived.WalkKit
import Derived.ProofKit
import Derived.OpenShut
import Derived.Below
import Derived.Deep.OwnRows
namespace Go.Proofs.Qxb6603768a
open Go.ChangeShapes Go.WideShapes Go.ChangeAt Go.RowKit

/-- A slice at 'a' whose elements are the strings l. -/
def StrsAt (w : World) (a : Option Addr) (l : List ByteArray) : Prop :=
  ∀ i, i < l.length → ∃ b off, a = some ⟨b, off, none⟩ ∧ b < w.heap.size ∧ w.cell? ⟨b, off + i, none⟩ = some (.string (l.getD i ByteArray.empty))

theorem StrsAt.below {w w' : World} {a : Option Addr} {l : List ByteArray} {B : Nat} (h : StrsAt w a l) (hb : Below B w w') (hB : ∀ b off, a = some ⟨b, off, none⟩ → l ≠ [] → b < B) : StrsAt w' a l := by
  intro i hi
  obtain ⟨b, off, e, hlt, hc⟩ := h i hi
  have hbB := hB b off e (by intro h0; rw [h0] at hi; simp at hi)
  exact ⟨b, off, e, by have := hb.size; omega, (hb.cell (p := ⟨b, off + i, none⟩) hbB).trans hc⟩

theorem StrsAt.later {w w' : World} {a : Option Addr} {l : List ByteArray} (h : StrsAt w a l) (hb : Below w.heap.size w w') : StrsAt w' a l := by
  intro i hi
  obtain ⟨b, off, e, hlt, hc⟩ := h i hi
  exact ⟨b, off, e, by have := hb.size; omega, (hb.cell (p := ⟨b, off + i, none⟩) hlt).trans hc⟩

theorem spend_any (a : Option Addr) (cap : Nat) (l : List ByteArray) (z : Int) (w : World) (hs : StrsAt w a l) (hl : l.length ≤ 9223372036854775807) (hz : z ≤ 1048576) :
    Calls Try.prog 13 #[.slice a l.length cap, .int .i64 z] w fun e w' => ∃ r : Int, e = .returned (.int .i64 r) ∧ r ≤ 1048576 ∧ w' = w := by
  by_cases hneg : z < 0
  · go_enter Try.func13, Try.ntmps13
    go_wp2
    go_ret
    exact ⟨z, rfl, hz, rfl⟩
  go_enter Try.func13, Try.ntmps13
  go_wp2
  go_loop [1, 5] (fun g i => ∃ k : Nat, k ≤ l.length ∧ i = .int .i64 k ∧ ∃ y : Int, 0 ≤ y ∧ y ≤ 1048576 ∧ g = .int .i64 y) (fun _ i => l.length - (intOf i).toNat)
  case atStart => exact ⟨0, Nat.zero_le _, rfl, z, by omega, hz, rfl⟩
  case round =>
    obtain ⟨k, hk, rfl, y, hy1, hy2, rfl⟩ := hrel
    by_cases hlt : k < l.length
    · obtain ⟨b, off, rfl, _, hc⟩ := hs k hlt
      obtain ⟨s, hsk⟩ : ∃ s, l.getD k ByteArray.empty = s := ⟨_, rfl⟩
      rw [hsk] at hc
      clear hsk hs
      by_cases hsz : y < s.size
      · go_wp2
        go_ret
        exact ⟨-1, rfl, by omega, rfl⟩
      · go_wp2
        go_round
        case rel => exact ⟨k + 1, by omega, by go_num, y - s.size, by omega, by omega, rfl⟩
        case measure => simp [intOf]; omega
    · go_wp2
      go_ret
      exact ⟨y, rfl, hy2, rfl⟩

/-- It returned a bool. -/
def RetB (e : Ending) : Prop := ∃ r : Bool, e = .returned (.bool r)

theorem bytes17 (a : Option Addr) (cap : Nat) (l : List ByteArray) (id : ByteArray) (w : World) (hs : StrsAt w a l) (hl : l.length ≤ 9223372036854775807) (hid : id.size ≤ 9223372036854775807) :
    Calls Try.prog 17 #[.slice a l.length cap, .string id] w fun e w' => RetB e ∧ w' = w := by
  by_cases h1 : 1048576 < l.length
  · go_enter Try.func17, Try.ntmps17
    go_wp2
    go_ret
    exact ⟨⟨false, rfl⟩, rfl⟩
  go_enter Try.func17, Try.ntmps17
  go_wp2
  go_loop [5, 6] (fun g i => ∃ k : Nat, k ≤ l.length ∧ i = .int .i64 k ∧ ∃ y : Int, 0 ≤ y ∧ y ≤ 1048576 ∧ g = .int .i64 y) (fun _ i => l.length - (intOf i).toNat)
  case atStart => exact ⟨0, Nat.zero_le _, rfl, l.length, by omega, by omega, by simp⟩
  case round =>
    obtain ⟨k, hk, rfl, y, hy1, hy2, rfl⟩ := hrel
    by_cases hlt : k < l.length
    · obtain ⟨b, off, rfl, _, hc⟩ := hs k hlt
      obtain ⟨s, hsk⟩ : ∃ s, l.getD k ByteArray.empty = s := ⟨_, rfl⟩
      rw [hsk] at hc
      clear hsk hs
      by_cases hsz : 1048576 < s.size
      · go_wp2
        go_ret
        exact ⟨⟨false, rfl⟩, rfl⟩
      · by_cases hs2 : 1048576 < y + s.size
        · go_wp2
          go_ret
          exact ⟨⟨false, rfl⟩, rfl⟩
        · go_wp2
          go_round
          case rel => exact ⟨k + 1, by omega, by go_num, y + s.size, by omega, by omega, rfl⟩
          case measure => simp [intOf]; omega
    · by_cases hi1 : 1048576 < id.size
      · go_wp2
        go_ret
        exact ⟨⟨false, rfl⟩, rfl⟩
      · by_cases hi2 : 1048576 < y + id.size
        · go_wp2
          go_ret
          exact ⟨⟨false, rfl⟩, rfl⟩
        · go_wp2
          go_ret
          exact ⟨⟨true, rfl⟩, rfl⟩
end Go.Proofs.Qxb6603768a

import Derived.Test.Qxb6603768aBase
namespace Go.Proofs.Qxb6603768a
open Go.ChangeShapes Go.WideShapes Go.ChangeAt Go.RowKit

set_option maxHeartbeats 1600000 in
theorem bytes12 (a : Option Addr) (cap : Nat) (l : List ByteArray) (t id : ByteArray) (aT : Option Addr) (cT : Nat) (anc : List ByteArray) (aI : Option Addr) (cI : Nat) (ids : List ByteArray) (w : World)
    (hs : StrsAt w a l) (hT : StrsAt w aT anc) (hI : StrsAt w aI ids) (hl : l.length ≤ 9223372036854775807) (hlT : anc.length ≤ 9223372036854775807) (hlI : ids.length ≤ 9223372036854775807)
    (ht : t.size ≤ 9223372036854775807) (hid : id.size ≤ 9223372036854775807) :
    Calls Try.prog 12 #[.slice a l.length cap, .string t, .string id, .slice aT anc.length cT, .slice aI ids.length cI] w fun e w' => RetB e ∧ w' = w := by
  by_cases h1 : 1048576 < l.length
  · go_enter Try.func12, Try.ntmps12
    go_wp2
    go_ret
    exact ⟨⟨false, rfl⟩, rfl⟩
  go_enter Try.func12, Try.ntmps12
  go_wp2
  go_loop [11, 12] (fun g i => ∃ k : Nat, k ≤ l.length ∧ i = .int .i64 k ∧ ∃ y : Int, 0 ≤ y ∧ y ≤ 1048576 ∧ g = .int .i64 y) (fun _ i => l.length - (intOf i).toNat)
  case atStart => exact ⟨0, Nat.zero_le _, rfl, l.length, by omega, by omega, by simp⟩
  case round =>
    obtain ⟨k, hk, rfl, y, hy1, hy2, rfl⟩ := hrel
    by_cases hlt : k < l.length
    · obtain ⟨b, off, rfl, _, hc⟩ := hs k hlt
      obtain ⟨s, hsk⟩ : ∃ s, l.getD k ByteArray.empty = s := ⟨_, rfl⟩
      rw [hsk] at hc
      clear hsk hs hT hI
      by_cases hsz : 1048576 < s.size
      · go_wp2
        go_ret
        exact ⟨⟨false, rfl⟩, rfl⟩
      by_cases hs2 : 1048576 < y + s.size
      · go_wp2
        go_ret
        exact ⟨⟨false, rfl⟩, rfl⟩
      · go_wp2
        go_round
        case rel => exact ⟨k + 1, by omega, by go_num, y + s.size, by omega, by omega, rfl⟩
        case measure => simp [intOf]; omega
    clear hs
    by_cases g1 : 1048576 < t.size
    · go_wp2
      go_ret
      exact ⟨⟨false, rfl⟩, rfl⟩
    by_cases g2 : 1048576 < y + t.size
    · go_wp2
      go_ret
      exact ⟨⟨false, rfl⟩, rfl⟩
    by_cases g3 : 1048576 < id.size
    · go_wp2
      go_ret
      exact ⟨⟨false, rfl⟩, rfl⟩
    by_cases g4 : 1048576 < y + t.size + id.size
    · go_wp2
      go_ret
      exact ⟨⟨false, rfl⟩, rfl⟩
    by_cases g5 : 1048576 < anc.length
    · go_wp2
      go_ret
      exact ⟨⟨false, rfl⟩, rfl⟩
    by_cases g6 : 1048576 < y + t.size + id.size + anc.length
    · go_wp2
      go_ret
      exact ⟨⟨false, rfl⟩, rfl⟩
    go_wp2
    go_loop [11, 13] (fun g i => ∃ k : Nat, k ≤ anc.length ∧ i = .int .i64 k ∧ ∃ y : Int, 0 ≤ y ∧ y ≤ 1048576 ∧ g = .int .i64 y) (fun _ i => anc.length - (intOf i).toNat)
    case atStart => exact ⟨0, Nat.zero_le _, rfl, _, by omega, by omega, rfl⟩
    case round =>
      obtain ⟨k, hk, rfl, y, hy1, hy2, rfl⟩ := hrel
      by_cases hlt : k < anc.length
      · obtain ⟨b, off, rfl, _, hc⟩ := hT k hlt
        obtain ⟨s, hsk⟩ : ∃ s, anc.getD k ByteArray.empty = s := ⟨_, rfl⟩
        rw [hsk] at hc
        clear hsk hT hI
        by_cases hsz : 1048576 < s.size
        · go_wp2
          go_ret
          exact ⟨⟨false, rfl⟩, rfl⟩
        by_cases hs2 : 1048576 < y + s.size
        · go_wp2
          go_ret
          exact ⟨⟨false, rfl⟩, rfl⟩
        · go_wp2
          go_round
          case rel => exact ⟨k + 1, by omega, by go_num, y + s.size, by omega, by omega, rfl⟩
          case measure => simp [intOf]; omega
      clear hT
      by_cases g5 : 1048576 < ids.length
      · go_wp2
        go_ret
        exact ⟨⟨false, rfl⟩, rfl⟩
      by_cases g6 : 1048576 < y + ids.length
      · go_wp2
        go_ret
        exact ⟨⟨false, rfl⟩, rfl⟩
      go_wp2
      go_loop [11, 14] (fun g i => ∃ k : Nat, k ≤ ids.length ∧ i = .int .i64 k ∧ ∃ y : Int, 0 ≤ y ∧ y ≤ 1048576 ∧ g = .int .i64 y) (fun _ i => ids.length - (intOf i).toNat)
      case atStart => exact ⟨0, Nat.zero_le _, rfl, _, by omega, by omega, rfl⟩
      case round =>
        obtain ⟨k, hk, rfl, y, hy1, hy2, rfl⟩ := hrel
        by_cases hlt : k < ids.length
        · obtain ⟨b, off, rfl, _, hc⟩ := hI k hlt
          obtain ⟨s, hsk⟩ : ∃ s, ids.getD k ByteArray.empty = s := ⟨_, rfl⟩
          rw [hsk] at hc
          clear hsk hI
          by_cases hsz : 1048576 < s.size
          · go_wp2
            go_ret
            exact ⟨⟨false, rfl⟩, rfl⟩
          by_cases hs2 : 1048576 < y + s.size
          · go_wp2
            go_ret
            exact ⟨⟨false, rfl⟩, rfl⟩
          · go_wp2
            go_round
            case rel => exact ⟨k + 1, by omega, by go_num, y + s.size, by omega, by omega, rfl⟩
            case measure => simp [intOf]; omega
        · go_wp2
          go_ret
          exact ⟨⟨true, rfl⟩, rfl⟩
end Go.Proofs.Qxb6603768a

import Derived.Test.Qxb6603768aIds
namespace Go.Proofs.Qxb6603768a
open Go.ChangeShapes Go.WideShapes Go.ChangeAt Go.RowKit

theorem countP_snoc {l : List ByteArray} {id s : ByteArray} {k : Nat} (h : k < l.length) (hs : l.getD k ByteArray.empty = s) :
    (l.take (k + 1)).countP (same id) = (l.take k).countP (same id) + (if (s.toList == id.toList) = true then 1 else 0) := by
  rw [take_snoc l k h, List.countP_append, hs, List.countP_singleton]; rfl

theorem filter_snoc {l : List ByteArray} {id s : ByteArray} {k : Nat} (h : k < l.length) (hs : l.getD k ByteArray.empty = s) :
    ((l.take (k + 1)).filter (fun x => !same id x)).length = ((l.take k).filter (fun x => !same id x)).length + (if (s.toList == id.toList) = true then 0 else 1) := by
  rw [take_snoc l k h, List.filter_append, List.length_append, hs, List.filter_cons]
  show _ + (if (!(s.toList == id.toList)) = true then s :: List.filter _ [] else List.filter _ []).length = _
  cases (s.toList == id.toList) <;> simp

theorem countP_le (l : List ByteArray) (id : ByteArray) (k : Nat) : (l.take k).countP (same id) ≤ k := Nat.le_trans List.countP_le_length (List.length_take_le _ _)
theorem filter_le (l : List ByteArray) (p : ByteArray → Bool) (k : Nat) : ((l.take k).filter p).length ≤ k := Nat.le_trans (List.length_filter_le _ _) (List.length_take_le _ _)

theorem filter_none {M : List ByteArray} {id : ByteArray} (h : M.countP (same id) = 0) : M.filter (fun x => !same id x) = M := by
  rw [List.filter_eq_self]
  intro x hx
  rw [List.countP_eq_zero] at h
  simpa using h x hx

set_option maxHeartbeats 1600000 in
set_option maxRecDepth 1000000 in
theorem rem_walk (a : Option Addr) (cap : Nat) (l : List ByteArray) (id : ByteArray) (w : World) (hs : StrsAt w a l) (hl : l.length ≤ 9223372036854775807) (hid : id.size ≤ 9223372036854775807) :
    Calls Try.prog 6 #[.slice a l.length cap, .string id] w fun e w' => e = .returned (.bool true) ∧ Below w.heap.size w w' := by
  go_enter Try.func6, Try.ntmps6
  go_wp2_with fail
  refine (bytes17 a cap l id w hs hl hid).mono ?_
  rintro e w' ⟨⟨r, rfl⟩, hw⟩
  obtain rfl := hw.symm
  cases r with
  | false =>
    go_wp2
    go_ret
    exact ⟨rfl, Below.refl _ _⟩
  | true =>
    by_cases h1 : 4096 < l.length
    · go_wp2
      go_ret
      exact ⟨rfl, Below.refl _ _⟩
    by_cases h2 : 1048576 < id.size
    · go_wp2
      go_ret
      exact ⟨rfl, Below.refl _ _⟩
    go_wp2_with fail
    refine (spend_any a cap l _ _ hs hl (by omega)).mono ?_
    rintro e w' ⟨r, rfl, hr, hw⟩
    obtain rfl := hw.symm
    by_cases h3 : r < 0
    · go_wp2
      go_ret
      exact ⟨rfl, Below.refl _ _⟩
    go_wp2_with fail
    refine (clone_any a cap l _ hs (by omega)).mono ?_
    rintro e w1 ⟨a1, c1, rfl, hs1, hb1⟩
    go_wp2_with fail
    refine (newdoc_any a1 c1 l w1 hs1 (by omega)).mono ?_
    rintro e w2 ⟨D, g, rfl, hDB, hgB, hd, hb2⟩
    have hs2 := hs1.later hb2
    have h1s := hb1.size
    go_wp2
    go_loop [7, 8] (fun c i => ∃ k : Nat, k ≤ l.length ∧ i = .int .i64 k ∧ c = .int .i64 ((l.take k).countP (same id) : Nat)) (fun _ i => l.length - (intOf i).toNat)
    case atStart => exact ⟨0, Nat.zero_le _, rfl, by simp⟩
    case round =>
      obtain ⟨k, hk, rfl, rfl⟩ := hrel
      have hcl := countP_le l id k
      by_cases hlt : k < l.length
      · obtain ⟨b, off, rfl, _, hc⟩ := hs2 k hlt
        obtain ⟨s, hsk⟩ : ∃ s, l.getD k ByteArray.empty = s := ⟨_, rfl⟩
        have CS : Hid (_ = _) := countP_snoc (id := id) hlt hsk
        rw [hsk] at hc
        clear hsk hs hs1 hs2 hd hb1 hb2
        by_cases he : (s.toList == id.toList) = true
        · have CS' : Hid ((l.take (k + 1)).countP (same id) = (l.take k).countP (same id) + 1) := by rw [CS.out, if_pos he]; exact rfl
          go_wp2
          go_round
          case rel => exact ⟨k + 1, by omega, by go_num, by rw [CS'.out]; go_num⟩
          case measure => simp [intOf]; omega
        · have he' : (s.toList == id.toList) = false := by simpa using he
          have CS' : Hid ((l.take (k + 1)).countP (same id) = (l.take k).countP (same id)) := by rw [CS.out, if_neg he]; exact rfl
          clear he
          go_wp2
          go_round
          case rel => exact ⟨k + 1, by omega, by go_num, by rw [CS'.out]⟩
          case measure => simp [intOf]; omega
      · obtain rfl : k = l.length := by omega
        rw [List.take_length] at *
        go_wp2
        go_loopw [9] (fun i wr => ∃ t : Nat, t ≤ l.countP (same id) ∧ i = .int .i64 t ∧ ∃ M, DocAt wr D g M ∧ M.filter (fun x => !same id x) = l.filter (fun x => !same id x) ∧ M.countP (same id) + t = l.countP (same id) ∧ Below w1.heap.size w1 wr) (fun i _ => l.countP (same id) - (intOf i).toNat)
        case atStart => exact ⟨0, Nat.zero_le _, rfl, l, hd, rfl, rfl, hb2⟩
        case round =>
          obtain ⟨t, ht, rfl, M, hdM, hM1, hM2, hbM⟩ := hrel
          have HM : Hid (M.filter (fun x => !same id x) = l.filter (fun x => !same id x) ∧ M.countP (same id) + t = l.countP (same id)) := ⟨hM1, hM2⟩
          by_cases hlt : t < l.countP (same id)
          · have hpos : 0 < M.countP (same id) := by omega
            clear hM1 hM2
            go_wp2_with fail
            refine (remove_any D g w1.heap.size M id wr hdM hDB hgB).mono ?_
            rintro e w3 ⟨M3, rfl, f1, f2, hd3, hb3⟩
            have HM3 : Hid (M3.filter (fun x => !same id x) = l.filter (fun x => !same id x) ∧ M3.countP (same id) + (t + 1) = l.countP (same id)) := ⟨f1.trans HM.out.1, by have := HM.out.2; omega⟩
            clear f1 f2
            go_wp2
            go_roundw
            case rel => exact ⟨t + 1, by omega, by go_num, M3, hd3, HM3.out.1, HM3.out.2, hbM.trans hb3⟩
            case measure => simp [intOf]; omega
          · have hz : M.countP (same id) = 0 := by omega
            clear hM1 hM2
            go_wp2_with fail
            refine (remove_any D g w1.heap.size M id wr hdM hDB hgB).mono ?_
            rintro e w3 ⟨M3, rfl, f1, f2, hd3, hb3⟩
            rw [hz] at f2
            have E3 : M3 = l.filter (fun x => !same id x) := by rw [← filter_none f2, f1, HM.out.1]
            clear f1 f2 hdM
            subst E3
            go_wp2_with fail
            refine (ids_any D g _ w3 hd3).mono ?_
            rintro e w4 ⟨a4, c4, rfl, hs4, hb4⟩
            have hb14 : Below w1.heap.size w1 w4 := (hbM.trans hb3).trans (hb4.mono (by have := (hbM.trans hb3).size; omega))
            have hsl := hs1.later hb14
            have hfin : Below w.heap.size w w4 := hb1.trans (hb14.mono h1s)
            clear hs hs1 hs2 hd hb1 hb2 hd3 hb3 hb4 hbM hb14 HM hz
            go_wp2
            go_loopw [11, 12] (fun j i wr => ∃ k jn : Nat, k ≤ l.length ∧ i = .int .i64 k ∧ j = .int .i64 jn ∧ jn = ((l.take k).filter (fun x => !same id x)).length ∧ Below w4.heap.size w4 wr) (fun _ i _ => l.length - (intOf i).toNat)
            case atStart => exact ⟨0, 0, Nat.zero_le _, rfl, rfl, by simp, Below.refl _ _⟩
            case round =>
              obtain ⟨k, jn, hk, rfl, rfl, hjn, hbr⟩ := hrel
              have hjl : jn ≤ k := by rw [hjn]; exact filter_le l _ k
              by_cases hlt : k < l.length
              · obtain ⟨b, off, rfl, _, hc⟩ := (hsl.later hbr) k hlt
                obtain ⟨s, hsk⟩ : ∃ s, l.getD k ByteArray.empty = s := ⟨_, rfl⟩
                have FS : Hid (_ = _) := filter_snoc (id := id) hlt hsk
                rw [hsk] at hc
                by_cases he : (s.toList == id.toList) = true
                · have FS' : Hid (jn = ((l.take (k + 1)).filter (fun x => !same id x)).length) := by rw [FS.out, if_pos he, ← hjn]; exact rfl
                  clear hsk hjn hsl hs4 FS
                  go_wp2
                  go_roundw
                  case rel => exact ⟨k + 1, jn, by omega, by go_num, rfl, FS'.out, hbr⟩
                  case measure => simp [intOf]; omega
                · have he' : (s.toList == id.toList) = false := by simpa using he
                  have FS' : Hid (jn + 1 = ((l.take (k + 1)).filter (fun x => !same id x)).length) := by rw [FS.out, if_neg he, ← hjn]; exact rfl
                  obtain ⟨hj1, hj2⟩ := filter_at (fun x => !same id x) l k hlt (by rw [hsk]; show (!(s.toList == id.toList)) = true; rw [he']; rfl)
                  rw [← hjn] at hj1 hj2
                  rw [hsk] at hj2
                  obtain ⟨b4, off4, rfl, _, hc4⟩ := (hs4.later hbr) jn hj1
                  rw [hj2] at hc4
                  clear hsk hjn hsl hs4 FS he hj2
                  generalize (l.filter (fun x => !same id x)).length = m at hj1 ⊢
                  have hd : decide ((m : Int) ≤ (jn : Int)) = false := by simp; omega
                  have hss : (s.toList != s.toList) = false := by simp
                  go_wp2
                  go_quiet (fail)
                  go_wp2
                  go_roundw
                  case rel => exact ⟨k + 1, jn + 1, by omega, by go_num, by go_num, FS'.out, hbr.trans ⟨rfl, rfl, rfl, Nat.le_refl _, fun _ _ => rfl⟩⟩
                  case measure => simp [intOf]; omega
              · obtain rfl : k = l.length := by omega
                rw [List.take_length] at hjn
                clear hsl hs4
                subst hjn
                go_wp2
                go_ret
                exact ⟨ret_bool (by simp), hfin.trans (hbr.mono (by have := hfin.size; omega))⟩
end Go.Proofs.Qxb6603768a

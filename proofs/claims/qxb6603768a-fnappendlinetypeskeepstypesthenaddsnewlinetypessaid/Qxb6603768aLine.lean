import Derived.Test.Qxb6603768aClone
import Derived.Test.Qxb6603768aLinePlain
namespace Go.Proofs.Qxb6603768a
open Go.ChangeShapes Go.WideShapes Go.ChangeAt Go.RowKit
open LinePlain

theorem clone_full (a : Option Addr) (cap : Nat) (l : List ByteArray) (w : World) (hs : StrsAt w a l) (hl : l.length ≤ 4096) :
    Calls Try.prog 14 #[.slice a l.length cap] w fun e w' => ∃ a', e = .returned (.slice a' l.length l.length) ∧ StrsAt w' a' l ∧ Below w.heap.size w w' := by
  have q25 : ∀ (w : World) (a : Option Addr) (n c n' c' : Nat), (binOp .eql 25 (.slice a n c) (.slice none n' c')).run Try.prog w = .ok (.bool a.isNone) w := fun w a n c n' c' => Lib.run_eql_slice_nil w _ _ a n c n' c' Try.underlying25
  cases a with
  | none =>
    have h0 : l = [] := by
      cases l with
      | nil => rfl
      | cons x xs => obtain ⟨b, off, e, _⟩ := hs 0 (by simp); simp at e
    subst h0
    go_enter Try.func14, Try.ntmps14
    go_wp2
    go_ret
    exact ⟨none, rfl, hs, Below.refl _ _⟩
  | some x =>
    have hmk := run_make_row' (P := Try.prog) 25 9 (.string ByteArray.empty) 16 Try.underlying25 Try.info9 rfl .i64 .i64 l.length (by omega) (by omega)
    go_enter Try.func14, Try.ntmps14
    go_wp2
    go_loopw [4] (fun i wr => ∃ k : Nat, k ≤ l.length ∧ i = .int .i64 k ∧ wr.rowIs w.heap.size 9 l.length (part l k) ∧ Below w.heap.size w wr) (fun i _ => l.length - (intOf i).toNat)
    case atStart => exact ⟨0, Nat.zero_le _, rfl, (World.rowIs_made w (.string ByteArray.empty) l.length 9).congr (fun j _ => by simp [part]), (Below.refl _ _).alloc (Nat.le_refl _) _⟩
    case round =>
      obtain ⟨k, hk, rfl, hrow, hb⟩ := hrel
      by_cases hlt : k < l.length
      · obtain ⟨b, off, e, hbl, hc⟩ := hs k hlt
        obtain rfl : x = ⟨b, off, none⟩ := by simpa using e
        obtain ⟨s, hsk⟩ : ∃ s, l.getD k ByteArray.empty = s := ⟨_, rfl⟩
        rw [hsk] at hc
        have hc' : wr.cell? ⟨b, off + k, none⟩ = some (.string s) := (hb.cell (p := ⟨b, off + k, none⟩) hbl).trans hc
        have hd := hrow.cell hlt
        have hf := hrow.frozen k
        have R1 : Hid (_) := part_step hrow hsk
        have R2 : Hid (_) := hb.setCell (p := ⟨w.heap.size, k, none⟩) (Nat.le_refl _) (.string s)
        clear hsk hs hc hrow hb e
        go_wp2
        go_roundw
        case rel => exact ⟨k + 1, by omega, by go_num, R1, R2⟩
        case measure => simp [intOf]; omega
      · obtain rfl : k = l.length := by omega
        have R1 := strsAt_row hrow
        go_wp2
        go_ret
        exact ⟨_, rfl, R1, hb⟩

/-! ### strings by their bytes -/
def keys (l : List ByteArray) : List K := l.map ByteArray.toList
theorem keys_len (l : List ByteArray) : (keys l).length = l.length := by simp [keys]
theorem keys_get {l : List ByteArray} {k : Nat} {s : ByteArray} (hk : k < l.length) (hs : l.getD k ByteArray.empty = s) : (keys l)[k]? = some s.toList := by
  rw [List.getD_eq_getElem?_getD, List.getElem?_eq_getElem hk] at hs
  simp only [Option.getD_some] at hs
  simp [keys, List.getElem?_eq_getElem hk, hs]

/-- None of the first k strings is x. -/
def NoneYet (l : List ByteArray) (x : ByteArray) (k : Nat) : Prop := x.toList ∉ (keys l).take k
theorem noneYet_zero (l : List ByteArray) (x : ByteArray) : NoneYet l x 0 := by simp [NoneYet]
theorem noneYet_succ {l : List ByteArray} {x s : ByteArray} {k : Nat} (h : NoneYet l x k) (hk : k < l.length) (hs : l.getD k ByteArray.empty = s) (he : (s.toList == x.toList) = false) : NoneYet l x (k + 1) := by
  unfold NoneYet at *
  have hk' : k < (keys l).length := by rw [keys_len]; exact hk
  rw [List.take_succ_eq_append_getElem hk', List.mem_append]
  rintro (h1 | h1)
  · exact h h1
  · have e := keys_get hk hs
    rw [List.getElem?_eq_getElem hk'] at e
    simp only [Option.some.injEq] at e
    rw [e] at h1
    have : x.toList = s.toList := by simpa using h1
    rw [this] at he
    simp at he
theorem noneYet_all {l : List ByteArray} {x : ByteArray} (h : NoneYet l x l.length) : x.toList ∉ keys l := by
  unfold NoneYet at h
  rwa [← keys_len, List.take_length] at h
theorem found_mem {l : List ByteArray} {x s : ByteArray} {k : Nat} (hk : k < l.length) (hs : l.getD k ByteArray.empty = s) (he : (s.toList == x.toList) = true) : x.toList ∈ keys l := by
  have e := keys_get hk hs
  have : s.toList = x.toList := by simpa using he
  rw [this] at e
  exact List.mem_of_getElem? e
theorem found_idx {l : List ByteArray} {x s : ByteArray} {k : Nat} (h : NoneYet l x k) (hk : k < l.length) (hs : l.getD k ByteArray.empty = s) (he : (s.toList == x.toList) = true) : kIdx (keys l) x.toList = k := by
  rw [kIdx, if_pos (found_mem hk hs he)]
  have hk' : k < (keys l).length := by rw [keys_len]; exact hk
  have e := keys_get hk hs
  rw [List.getElem?_eq_getElem hk'] at e
  simp only [Option.some.injEq] at e
  have hsx : s.toList = x.toList := by simpa using he
  have e1 : keys l = (keys l).take k ++ x.toList :: (keys l).drop (k + 1) := by
    rw [← hsx, ← e, ← List.drop_eq_getElem_cons hk', List.take_append_drop]
  rw [e1, List.idxOf_append, if_neg h, List.idxOf_cons_self, List.length_take]
  omega

theorem ret_int {a b : Int} (h : a = b) : Ending.returned (.int .i64 a) = .returned (.int .i64 b) := by rw [h]
theorem ret_bool' {a b : Bool} (h : a = b) : Ending.returned (.bool a) = .returned (.bool b) := by rw [h]

theorem index_any (a : Option Addr) (cap : Nat) (l : List ByteArray) (x : ByteArray) (w : World) (hs : StrsAt w a l) (hl : l.length ≤ 9223372036854775807) :
    Calls Try.prog 16 #[.slice a l.length cap, .string x] w fun e w' => e = .returned (.int .i64 (kIdx (keys l) x.toList)) ∧ w' = w := by
  go_enter Try.func16, Try.ntmps16
  go_wp2
  go_loop [5] (fun i => ∃ k : Nat, k ≤ l.length ∧ i = .int .i64 k ∧ NoneYet l x k) (fun i => l.length - (intOf i).toNat)
  case atStart => exact ⟨0, Nat.zero_le _, rfl, noneYet_zero _ _⟩
  case round =>
    obtain ⟨k, hk, rfl, hno⟩ := hrel
    by_cases hlt : k < l.length
    · obtain ⟨b, off, rfl, _, hc⟩ := hs k hlt
      obtain ⟨s, hsk⟩ : ∃ s, l.getD k ByteArray.empty = s := ⟨_, rfl⟩
      rw [hsk] at hc
      by_cases he : (s.toList == x.toList) = true
      · have F : Hid (_ = _) := found_idx hno hlt hsk he
        clear hsk hs hno
        go_wp2
        go_ret
        exact ⟨ret_int F.out.symm, rfl⟩
      · have he' : (s.toList == x.toList) = false := by simpa using he
        have F := noneYet_succ hno hlt hsk he'
        clear hsk hs hno he
        go_wp2
        go_round
        case rel => exact ⟨k + 1, by omega, by go_num, F⟩
        case measure => simp [intOf]; omega
    · obtain rfl : k = l.length := by omega
      have F : Hid (_ = _) := kIdx_not (noneYet_all hno)
      clear hs hno
      go_wp2
      go_ret
      exact ⟨ret_int F.out.symm, rfl⟩

theorem holds_any (a : Option Addr) (cap : Nat) (l : List ByteArray) (x : ByteArray) (w : World) (hs : StrsAt w a l) (hl : l.length ≤ 9223372036854775807) :
    Calls Try.prog 27 #[.slice a l.length cap, .string x] w fun e w' => e = .returned (.bool (decide (x.toList ∈ keys l))) ∧ w' = w := by
  go_enter Try.func27, Try.ntmps27
  go_wp2
  go_loop [9] (fun i => ∃ k : Nat, k ≤ l.length ∧ i = .int .i64 k ∧ NoneYet l x k) (fun i => l.length - (intOf i).toNat)
  case atStart => exact ⟨0, Nat.zero_le _, rfl, noneYet_zero _ _⟩
  case round =>
    obtain ⟨k, hk, rfl, hno⟩ := hrel
    by_cases hlt : k < l.length
    · obtain ⟨b, off, rfl, _, hc⟩ := hs k hlt
      obtain ⟨s, hsk⟩ : ∃ s, l.getD k ByteArray.empty = s := ⟨_, rfl⟩
      rw [hsk] at hc
      by_cases he : (s.toList == x.toList) = true
      · have F : Hid (_) := found_mem hlt hsk he
        clear hsk hs hno
        go_wp2
        go_ret
        exact ⟨ret_bool' (by simp [F.out]), rfl⟩
      · have he' : (s.toList == x.toList) = false := by simpa using he
        have F := noneYet_succ hno hlt hsk he'
        clear hsk hs hno he
        go_wp2
        go_round
        case rel => exact ⟨k + 1, by omega, by go_num, F⟩
        case measure => simp [intOf]; omega
    · obtain rfl : k = l.length := by omega
      have F : Hid (_) := noneYet_all hno
      clear hs hno
      go_wp2
      go_ret
      exact ⟨ret_bool' (decide_eq_false F.out).symm, rfl⟩
end Go.Proofs.Qxb6603768a

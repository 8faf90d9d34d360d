import Derived.Test.Qxb6603768aDoc
import Derived.Deep.RegionLaw
import Derived.Lib.LazyBuf
import Derived.Outline
namespace Go.Proofs.Qxb6603768a
open Go.ChangeShapes Go.WideShapes Go.ChangeAt Go.RowKit

def same (id x : ByteArray) : Bool := x.toList == id.toList

theorem cellsOf_at (L : Nat → ByteArray) (k j : Nat) (hj : j < 9) : cellsOf L (k * 9 + j) = rowc (L k) j := by
  unfold cellsOf
  rw [show (k * 9 + j) / 9 = k by omega, show (k * 9 + j) % 9 = j by omega]

/-- The nine cells of rule k. -/
theorem nine {w : World} {g cap k : Nat} {L : Nat → ByteArray} (h : w.rowIs g 48 (cap * 9) (cellsOf L)) (hk : k < cap) :
    w.cell? ⟨g, k * 9, none⟩ = some (.string (L k)) ∧ w.cell? ⟨g, k * 9 + 1, none⟩ = some (.string ByteArray.empty) ∧ w.cell? ⟨g, k * 9 + 2, none⟩ = some (.string ByteArray.empty) ∧
    w.cell? ⟨g, k * 9 + 3, none⟩ = some (.pointer none) ∧ w.cell? ⟨g, k * 9 + 4, none⟩ = some (.pointer none) ∧ w.cell? ⟨g, k * 9 + 5, none⟩ = some (.slice none 0 0) ∧
    w.cell? ⟨g, k * 9 + 6, none⟩ = some (.string ByteArray.empty) ∧ w.cell? ⟨g, k * 9 + 7, none⟩ = some (.pointer none) ∧ w.cell? ⟨g, k * 9 + 8, none⟩ = some (.pointer none) := by
  have H : ∀ j, j < 9 → w.cell? ⟨g, k * 9 + j, none⟩ = some (rowc (L k) j) := fun j hj => by rw [h.cell (by omega), cellsOf_at L k j hj]
  exact ⟨H 0 (by omega), H 1 (by omega), H 2 (by omega), H 3 (by omega), H 4 (by omega), H 5 (by omega), H 6 (by omega), H 7 (by omega), H 8 (by omega)⟩

theorem rowIs_ne {w : World} {b b' : Nat} {t t' : TypeId} {n n' : Nat} {f f' : Nat → Value} (h : w.rowIs b t n f) (h' : w.rowIs b' t' n' f') (ht : t ≠ t') : b ≠ b' := by
  intro e
  subst e
  obtain ⟨c, e1, _⟩ := h
  obtain ⟨c', e2, _⟩ := h'
  rw [e1] at e2
  simp only [Option.some.injEq, Obj.cells.injEq] at e2
  exact ht e2.2.1

/-- The cells of the rules behind k, up to n. -/
def moved (L : Nat → ByteArray) (k n : Nat) : List Value := (List.range ((n - (k + 1)) * 9)).map fun j => cellsOf L ((k + 1) * 9 + j)
theorem moved_length (L : Nat → ByteArray) (k n : Nat) : (moved L k n).length = (n - (k + 1)) * 9 := by simp [moved]
theorem moved_get {L : Nat → ByteArray} {k n j : Nat} {u : Value} (h : (moved L k n)[j]? = some u) : j < (n - (k + 1)) * 9 ∧ u = cellsOf L ((k + 1) * 9 + j) := by
  have hj := (List.getElem?_eq_some_iff.1 h).1
  rw [moved_length] at hj
  refine ⟨hj, ?_⟩
  simp [moved, hj] at h
  exact h.symm
theorem moved_one (L : Nat → ByteArray) (k n : Nat) : ∀ u ∈ moved L k n, u.oneCell' = true := by
  intro u hu
  obtain ⟨j, _, rfl⟩ := List.mem_map.1 hu
  unfold cellsOf rowc
  split
  · rfl
  · split
    · rfl
    · split <;> rfl

/-- Where the rules from k + 1 on begin, as the model reckons it; and what lies there. -/
theorem where_from {W : World} {g cap k n : Nat} {L : Nat → ByteArray} (hg : W.rowIs g 48 (cap * 9) (cellsOf L)) (hk : k < n) (hn : n ≤ cap) :
    ∃ A : Addr, (if cap = k + 1 then some (⟨g, 0, none⟩ : Addr) else some ⟨g, (k + 1) * 9, none⟩) = some A ∧ Hid (∀ j u, (moved L k n)[j]? = some u → W.drew.cell? (A.add j) = some u) := by
  by_cases h : cap = k + 1
  · refine ⟨⟨g, 0, none⟩, by simp [h], fun j u hu => ?_⟩
    have := (moved_get hu).1
    exfalso
    have : n - (k + 1) = 0 := by omega
    simp_all
  · refine ⟨⟨g, (k + 1) * 9, none⟩, by simp [h], fun j u hu => ?_⟩
    obtain ⟨hj, rfl⟩ := moved_get hu
    rw [Addr.add_lit]
    exact hg.cell (by omega)

/-- The IDs behind the removal of rule k out of n. -/
def gone (L : Nat → ByteArray) (k n i : Nat) : ByteArray := if i < k then L i else if i < n - 1 then L (i + 1) else L i

theorem row_gone {W : World} {g cap k n : Nat} {L : Nat → ByteArray} (hg : W.rowIs g 48 (cap * 9) (cellsOf L)) (hk : k < n) :
    (W.drew.setCells g (k * 9) (moved L k n)).rowIs g 48 (cap * 9) (cellsOf (gone L k n)) := by
  refine (_root_.Go.rowIs_setCells (moved L k n) (k * 9) W.drew _ hg.drew).congr fun j hj => ?_
  rw [moved_length]
  by_cases h : k * 9 ≤ j ∧ j < k * 9 + (n - (k + 1)) * 9
  · rw [if_pos h]
    have e : (moved L k n)[j - k * 9]?.getD default = cellsOf L ((k + 1) * 9 + (j - k * 9)) := by
      have hj' : j - k * 9 < (n - (k + 1)) * 9 := by omega
      simp [moved, hj']
    rw [e, show (k + 1) * 9 + (j - k * 9) = j + 9 by omega]
    unfold cellsOf gone
    rw [show (j + 9) / 9 = j / 9 + 1 by omega, show (j + 9) % 9 = j % 9 by omega, if_neg (by omega), if_pos (by omega)]
  · rw [if_neg h]
    unfold cellsOf gone
    by_cases h1 : j / 9 < k
    · rw [if_pos h1]
    · rw [if_neg h1, if_neg (by omega)]

theorem gone_list {M : List ByteArray} {L : Nat → ByteArray} {k : Nat} (hk : k < M.length) (hL : ∀ i, i < M.length → L i = M.getD i ByteArray.empty) :
    ∀ i, i < (M.eraseIdx k).length → gone L k M.length i = (M.eraseIdx k).getD i ByteArray.empty := by
  intro i hi
  rw [List.length_eraseIdx_of_lt hk] at hi
  unfold gone
  rw [List.getD_eq_getElem?_getD, List.getElem?_eraseIdx]
  by_cases h : i < k
  · rw [if_pos h, if_pos h, hL i (by omega), List.getD_eq_getElem?_getD]
  · rw [if_neg h, if_neg h, if_pos hi, hL (i + 1) (by omega), List.getD_eq_getElem?_getD]

theorem doc_gone {w W : World} {D g B cap k : Nat} {M : List ByteArray} {L : Nat → ByteArray} (hBD : B ≤ D) (hBg : B ≤ g) (hBw : B ≤ w.heap.size) (hb : Below w.heap.size w W)
    (hD : W.rowIs D 58 7 (docCells g M.length cap)) (hg : W.rowIs g 48 (cap * 9) (cellsOf L)) (hk : k < M.length) (hn : M.length ≤ cap) (hcap : cap ≤ 4096)
    (hL : ∀ i, i < M.length → L i = M.getD i ByteArray.empty) :
    DocAt ((W.drew.setCells g (k * 9) (moved L k M.length)).setCell ⟨D, 6, none⟩ (.slice (some ⟨g, 0, none⟩) (k + (M.length - (k + 1))) cap)) D g (M.eraseIdx k) ∧
    Below B w ((W.drew.setCells g (k * 9) (moved L k M.length)).setCell ⟨D, 6, none⟩ (.slice (some ⟨g, 0, none⟩) (k + (M.length - (k + 1))) cap)) := by
  have hne := rowIs_ne hD hg (by decide)
  have hlen := List.length_eraseIdx_of_lt hk
  refine ⟨⟨gone L k M.length, cap, by omega, hcap, gone_list hk hL, ?_, ?_⟩, ?_⟩
  · refine ((_root_.Go.rowIs_setCells_other hne _ _ _ hD.drew).set 6 _).congr fun j hj => ?_
    unfold docCells
    by_cases h : j = 6
    · rw [if_pos h, if_pos h, hlen, show k + (M.length - (k + 1)) = M.length - 1 by omega]
    · rw [if_neg h, if_neg h, if_neg h]
  · exact (row_gone hg hk).setOther (by exact fun e => hne e.symm) _
  · exact (_root_.Go.below_setCells hBg _ _ _ (hb.mono hBw).drew).setCell (by exact hBD) _

theorem erase_split {M : List ByteArray} {k : Nat} (hk : k < M.length) : M = M.take k ++ M.getD k ByteArray.empty :: M.drop (k + 1) ∧ M.eraseIdx k = M.take k ++ M.drop (k + 1) := by
  refine ⟨?_, List.eraseIdx_eq_take_drop_succ M k⟩
  have e : M.getD k ByteArray.empty = M[k] := by rw [List.getD_eq_getElem?_getD, List.getElem?_eq_getElem hk]; rfl
  rw [e, ← List.drop_eq_getElem_cons hk, List.take_append_drop]

theorem erase_filter {M : List ByteArray} {k : Nat} {id : ByteArray} (hk : k < M.length) (hs : same id (M.getD k ByteArray.empty) = true) :
    (M.eraseIdx k).filter (fun x => !same id x) = M.filter (fun x => !same id x) ∧ (M.eraseIdx k).countP (same id) = M.countP (same id) - 1 ∧ 0 < M.countP (same id) := by
  obtain ⟨e1, e2⟩ := erase_split hk
  generalize hx : M.getD k ByteArray.empty = x at *
  have a1 : M.filter (fun x => !same id x) = (M.take k ++ x :: M.drop (k + 1)).filter (fun x => !same id x) := by rw [← e1]
  have a2 : M.countP (same id) = (M.take k ++ x :: M.drop (k + 1)).countP (same id) := by rw [← e1]
  rw [a1, a2, e2]
  simp only [List.filter_append, List.countP_append, List.filter_cons, List.countP_cons, hs]
  refine ⟨by simp, by simp, by simp only [if_true]; omega⟩

theorem none_count {M : List ByteArray} {id : ByteArray} (h : ∀ j, j < M.length → same id (M.getD j ByteArray.empty) = false) : M.countP (same id) = 0 := by
  rw [List.countP_eq_zero]
  intro x hx
  obtain ⟨j, hj, rfl⟩ := List.mem_iff_getElem.1 hx
  have := h j hj
  rw [List.getD_eq_getElem?_getD, List.getElem?_eq_getElem hj] at this
  simp only [Option.getD_some] at this
  rw [this]; simp

theorem ret_bool {a b : Bool} (h : a = b) : Ending.returned (.bool a) = .returned (.bool b) := by rw [h]

set_option maxHeartbeats 1600000 in
set_option maxRecDepth 1000000 in
theorem remove_any (D g B : Nat) (M : List ByteArray) (id : ByteArray) (w : World) (hd : DocAt w D g M) (hBD : B ≤ D) (hBg : B ≤ g) :
    Calls Try.prog 19 #[.pointer (some ⟨D, 0, none⟩), .string id] w fun e w' =>
      ∃ M', e = .returned (.bool (decide (0 < M.countP (same id)))) ∧ M'.filter (fun x => !same id x) = M.filter (fun x => !same id x) ∧ M'.countP (same id) = M.countP (same id) - 1 ∧ DocAt w' D g M' ∧ Below B w w' := by
  obtain ⟨L, cap, hn, hcap, hL, hD, hg⟩ := hd
  have hDlt := hD.lt
  have hglt := hg.lt
  have hc6 : w.cell? ⟨D, 6, none⟩ = some (.slice (some ⟨g, 0, none⟩) M.length cap) := hD.cell (by omega)
  have hf6 := hD.frozen 6
  go_enter Try.func19, Try.ntmps19
  go_wp2
  go_loopw [13] (fun i wr => ∃ k : Nat, k ≤ M.length ∧ i = .int .i64 k ∧ (∀ j, j < k → same id (M.getD j ByteArray.empty) = false) ∧ Below w.heap.size w wr) (fun i _ => M.length - (intOf i).toNat)
  case atStart => exact ⟨0, Nat.zero_le _, rfl, by omega, Below.refl _ _⟩
  case round =>
    obtain ⟨k, hk, rfl, hno, hb⟩ := hrel
    have hbs := hb.size
    by_cases hlt : k < M.length
    · obtain ⟨s, hsk⟩ : ∃ s, L k = s := ⟨_, rfl⟩
      obtain ⟨c0, c1, c2, c3, c4, c5, c6, c7, c8⟩ := nine (hg.of_block (w' := wr) (hb.block g hglt)) (show k < cap by omega)
      rw [hsk] at c0
      have d6 : wr.cell? ⟨D, 6, none⟩ = some (.slice (some ⟨g, 0, none⟩) M.length cap) := (hb.cell (p := ⟨D, 6, none⟩) hDlt).trans hc6
      have e6 : wr.frozen? ⟨D, 6, none⟩ = false := (hb.frozen (p := ⟨D, 6, none⟩) hDlt).trans hf6
      have HH : Hid (L k = s) := hsk
      clear hsk hc6 hf6
      by_cases he : (s.toList == id.toList) = true
      · go_wp2
        have hbW : Below w.heap.size w (wr.alloc (Obj.cells #[Value.string s, Value.string ByteArray.empty, Value.string ByteArray.empty, Value.pointer none, Value.pointer none, Value.slice none 0 0, Value.string ByteArray.empty, Value.pointer none, Value.pointer none] 48)) := hb.alloc hbs _
        clear c0 c1 c2 c3 c4 c5 c6 c7 c8 d6 e6
        have EF : Hid (_ ∧ _ ∧ _) := erase_filter (id := id) hlt (by rw [← hL k hlt, HH.out]; exact he)
        generalize wr.alloc (Obj.cells #[Value.string s, Value.string ByteArray.empty, Value.string ByteArray.empty, Value.pointer none, Value.pointer none, Value.slice none 0 0, Value.string ByteArray.empty, Value.pointer none, Value.pointer none] 48) = W at hbW ⊢
        have hgW := hg.of_block (hbW.block g hglt)
        have hDW := hD.of_block (hbW.block D hDlt)
        have hne := rowIs_ne hDW hgW (by decide)
        have d6 : W.cell? ⟨D, 6, none⟩ = some (.slice (some ⟨g, 0, none⟩) M.length cap) := hDW.cell (by omega)
        obtain ⟨A, hA, hnews⟩ := where_from hgW hlt hn
        have DG : Hid (_ ∧ _) := doc_gone hBD hBg (by omega) hbW hDW hgW hlt hn hcap hL
        have s1 : Hid ((moved L k M.length).length = (M.length - (k + 1)) * 9) := moved_length L k M.length
        have s2 : Hid (∀ u ∈ moved L k M.length, u.oneCell' = true) := moved_one L k M.length
        have s3 : Hid (∀ j, j < (moved L k M.length).length → (W.drew.cell? ⟨g, 0 + k * 9 + j, none⟩).isSome = true ∧ W.drew.frozen? ⟨g, 0 + k * 9 + j, none⟩ = false) := by
          intro j hj
          rw [moved_length] at hj
          refine ⟨?_, hgW.frozen _⟩
          show (W.cell? _).isSome = true
          rw [hgW.cell (by omega)]
          rfl
        have k0 : (W.drew.setCells g (k * 9) (moved L k M.length)).cell? ⟨D, 6, none⟩ = some (.slice (some ⟨g, 0, none⟩) M.length cap) := by
          rw [World.cell?_setCells_out g _ _ _ _ (fun hb _ => absurd hb hne)]
          exact d6
        have e0 : (W.drew.setCells g (k * 9) (moved L k M.length)).frozen? ⟨D, 6, none⟩ = false := (World.frozen?_setCells g _ _ _ _).trans (hDW.frozen 6)
        have hic : k ≤ cap := by omega
        have hwr : IntKind.i64.wrap ((k : Int) + 1) = (k : Int) + 1 := by rw [IntKind.wrap_i64]; omega
        have hp0 : (0 : Int) ≤ (k : Int) + 1 := by omega
        have hp1 : (k : Int) + 1 ≤ (M.length : Int) := by omega
        have hp2 : ((k : Int) + 1).toNat = k + 1 := by omega
        obtain ⟨i0, hi0, hz0, hz1, hz2⟩ := info_parts Try.info48
        go_region_law (refine step_append_room rfl (.tmp 29) (.tmp 37) 44 rfl 48 i0 9 Try.underlying44 hi0 hz1 g 0 k cap (by simp [Act.eval, Act.put]) A (M.length - (k + 1)) (cap - (k + 1)) (moved L k M.length) (by simp [Act.eval, Act.put]) s1.out hnews.out s2.out (by omega) s3.out ?_)
        all_goals go_wp2
        all_goals go_ret
        all_goals exact ⟨M.eraseIdx k, ret_bool (by simp [EF.out.2.2]), EF.out.1, EF.out.2.1, DG.out.1, DG.out.2⟩
      · have he' : (s.toList == id.toList) = false := by simpa using he
        clear he
        have NO : Hid (∀ j, j < k + 1 → same id (M.getD j ByteArray.empty) = false) := by
          intro j hj
          by_cases e : j = k
          · subst e; rw [← hL j hlt, HH.out]; exact he'
          · exact hno j (by omega)
        clear hno
        go_wp2
        go_roundw
        case rel => exact ⟨k + 1, by omega, by go_num, NO.out, hb.alloc hbs _⟩
        case measure => simp [intOf]; omega
    · obtain rfl : k = M.length := by omega
      have Z := none_count hno
      go_wp2
      go_ret
      exact ⟨M, ret_bool (by simp [Z]), rfl, by omega, ⟨L, cap, hn, hcap, hL, hD.of_block (hb.block D hDlt), hg.of_block (hb.block g hglt)⟩, hb.mono (by omega)⟩
end Go.Proofs.Qxb6603768a

import Derived.Test.Qxb6603768aLine
import Derived.Deep.LoopGhost
import Derived.ArgAppend
import Derived.RegionTactic
import Derived.BigRegion
import Derived.Outline
namespace Go.Proofs.Qxb6603768a
open Go.ChangeShapes Go.WideShapes Go.ChangeAt Go.RowKit
open LinePlain

/-- The objects from p on, parent after parent, have the types ts. -/
def Chain (w : World) : Option Addr → List ByteArray → Prop
  | p, [] => p = none
  | p, t :: ts => ∃ b id q, p = some ⟨b, 0, none⟩ ∧ b < w.heap.size ∧ w.cell? ⟨b, 0, none⟩ = some (.string t) ∧ w.cell? ⟨b, 1, none⟩ = some (.string id) ∧ w.cell? ⟨b, 2, none⟩ = some (.pointer q) ∧ Chain w q ts

theorem Chain.below {w w' : World} {B : Nat} (hb : Below B w w') : ∀ (ts : List ByteArray) (p : Option Addr), (∀ b, b < w.heap.size → b < B) → Chain w p ts → Chain w' p ts
  | [], _, _, h => h
  | t :: ts, p, hB, ⟨b, id, q, e, hlt, c0, c1, c2, h⟩ =>
    ⟨b, id, q, e, by have := hb.size; omega, (hb.cell (p := ⟨b, 0, none⟩) (hB b hlt)).trans c0, (hb.cell (p := ⟨b, 1, none⟩) (hB b hlt)).trans c1, (hb.cell (p := ⟨b, 2, none⟩) (hB b hlt)).trans c2, Chain.below hb ts q hB h⟩

/-- One string more, unless it is there. -/
def addB (T : List ByteArray) (x : ByteArray) : List ByteArray := if x.toList ∈ keys T then T else T ++ [x]
theorem keys_addB (T : List ByteArray) (x : ByteArray) : keys (addB T x) = addNew (keys T) x.toList := by
  unfold addB addNew
  by_cases h : x.toList ∈ keys T
  · rw [if_pos h, if_pos h]
  · rw [if_neg h, if_neg h]; simp [keys]
theorem keys_fold : ∀ (L T : List ByteArray), keys (L.foldl addB T) = (keys L).foldl addNew (keys T)
  | [], _ => rfl
  | x :: L, T => by rw [List.foldl_cons, keys_fold L, keys_addB]; rfl
theorem addB_len (T : List ByteArray) (x : ByteArray) : (addB T x).length ≤ T.length + 1 := by
  unfold addB; split <;> simp

/-- The slice value v, in wr, holds the strings T: it is still the one that came in, full; or it lies in memory laid from R on. -/
def OutIs (wr : World) (a : Option Addr) (l : List ByteArray) (R : Nat) (v : Value) (T : List ByteArray) : Prop :=
  (v = .slice a l.length l.length ∧ T = l) ∨ wr.ownsRow R 9 1 v T.length (T.map Value.string)

theorem strs_own {w : World} {R : Nat} {v : Value} {T : List ByteArray} (h : w.ownsRow R 9 1 v T.length (T.map Value.string)) : ∃ a c, v = .slice a T.length c ∧ StrsAt w a T := by
  rcases h.2 with ⟨rfl, h0⟩ | ⟨g, cap, cur, rfl, _, hh, _, _, _, _⟩
  · have : T = [] := List.eq_nil_of_length_eq_zero h0
    subst this
    exact ⟨none, 0, rfl, fun i hi => by simp at hi⟩
  · refine ⟨_, cap, rfl, fun i hi => ⟨g, 0, rfl, (Array.getElem?_eq_some_iff.1 hh).1, ?_⟩⟩
    rw [Nat.zero_add, h.cellAt i (by omega)]
    simp [List.getD_eq_getElem?_getD, List.getElem?_eq_getElem hi]

theorem strs_out {w : World} {a : Option Addr} {l : List ByteArray} {R : Nat} {v : Value} {T : List ByteArray} (hs : StrsAt w a l) (h : OutIs w a l R v T) : ∃ a' c, v = .slice a' T.length c ∧ StrsAt w a' T := by
  rcases h with ⟨rfl, rfl⟩ | h
  · exact ⟨a, _, rfl, hs⟩
  · exact strs_own h

/-- Behind the append: the box R's cells, and what was there, are as they were. -/
theorem own_after {w wr w1 : World} {v v' : Value} {T : List ByteArray} {c d : ByteArray} (hR : w.heap.size < wr.heap.size) (hb : Below w.heap.size w wr) (hrow : ∀ k, v.ownBlock = some k → w.heap.size < k)
    (c0 : wr.cell? ⟨w.heap.size, 0, none⟩ = some (.string c)) (c1 : wr.cell? ⟨w.heap.size, 1, none⟩ = some (.string d)) (f0 : wr.frozen? ⟨w.heap.size, 0, none⟩ = false) (f1 : wr.frozen? ⟨w.heap.size, 1, none⟩ = false)
    (hown : w1.ownsRow (w.heap.size + 1) 9 1 v' (T.length + 1) (T.map Value.string ++ [.string c])) (hg : (wr.alloc (.cells #[.string c] 9)).grownBy w1 v.ownBlock) :
    w1.ownsRow (w.heap.size + 1) 9 1 v' (T ++ [c]).length ((T ++ [c]).map Value.string) ∧ w1.cell? ⟨w.heap.size, 0, none⟩ = some (.string c) ∧ w1.cell? ⟨w.heap.size, 1, none⟩ = some (.string d) ∧
      w1.frozen? ⟨w.heap.size, 0, none⟩ = false ∧ w1.frozen? ⟨w.heap.size, 1, none⟩ = false ∧ Below w.heap.size w w1 ∧ w.heap.size < w1.heap.size := by
  have hsz : wr.heap.size < (wr.alloc (.cells #[.string c] 9)).heap.size := by simp
  have e : w1.heap[w.heap.size]? = wr.heap[w.heap.size]? := (hg.block w.heap.size (by omega) (fun h => by have := hrow _ h.symm; omega)).trans (Below.heap_alloc _ _ _ hR)
  refine ⟨by simpa using hown, (World.cell?_of_block (a := ⟨w.heap.size, 0, none⟩) e).trans c0, (World.cell?_of_block (a := ⟨w.heap.size, 1, none⟩) e).trans c1, (World.frozen?_of_block (a := ⟨w.heap.size, 0, none⟩) e).trans f0, (World.frozen?_of_block (a := ⟨w.heap.size, 1, none⟩) e).trans f1, ?_, by have := hg.size; omega⟩
  exact (hb.alloc (by omega) _).grown hg (by omega) (fun k h => by have := hrow k h; omega)

theorem box_after {w wr : World} {a : Option Addr} {l T : List ByteArray} {v : Value} {c d t' id' : ByteArray} (hb : Below w.heap.size w wr) (hR : w.heap.size < wr.heap.size) (hout : OutIs wr a l (w.heap.size + 1) v T)
    (c0 : wr.cell? ⟨w.heap.size, 0, none⟩ = some (.string c)) (c1 : wr.cell? ⟨w.heap.size, 1, none⟩ = some (.string d)) (f0 : wr.frozen? ⟨w.heap.size, 0, none⟩ = false) (f1 : wr.frozen? ⟨w.heap.size, 1, none⟩ = false) :
    OutIs ((wr.setCell ⟨w.heap.size, 0, none⟩ (.string t')).setCell ⟨w.heap.size, 1, none⟩ (.string id')).drew a l (w.heap.size + 1) v T ∧
    ((wr.setCell ⟨w.heap.size, 0, none⟩ (.string t')).setCell ⟨w.heap.size, 1, none⟩ (.string id')).drew.cell? ⟨w.heap.size, 0, none⟩ = some (.string t') ∧
    ((wr.setCell ⟨w.heap.size, 0, none⟩ (.string t')).setCell ⟨w.heap.size, 1, none⟩ (.string id')).drew.cell? ⟨w.heap.size, 1, none⟩ = some (.string id') ∧
    ((wr.setCell ⟨w.heap.size, 0, none⟩ (.string t')).setCell ⟨w.heap.size, 1, none⟩ (.string id')).drew.frozen? ⟨w.heap.size, 0, none⟩ = false ∧
    ((wr.setCell ⟨w.heap.size, 0, none⟩ (.string t')).setCell ⟨w.heap.size, 1, none⟩ (.string id')).drew.frozen? ⟨w.heap.size, 1, none⟩ = false ∧
    Below w.heap.size w ((wr.setCell ⟨w.heap.size, 0, none⟩ (.string t')).setCell ⟨w.heap.size, 1, none⟩ (.string id')).drew ∧
    w.heap.size < ((wr.setCell ⟨w.heap.size, 0, none⟩ (.string t')).setCell ⟨w.heap.size, 1, none⟩ (.string id')).drew.heap.size := by
  have n01 : (⟨w.heap.size, 0, none⟩ : Addr) ≠ ⟨w.heap.size, 1, none⟩ := by simp
  have e1 : (wr.setCell ⟨w.heap.size, 0, none⟩ (.string t')).cell? ⟨w.heap.size, 1, none⟩ = some (.string d) := (World.cell?_setCell_other (h := n01) ..).trans c1
  have e0 : (wr.setCell ⟨w.heap.size, 0, none⟩ (.string t')).cell? ⟨w.heap.size, 0, none⟩ = some (.string t') := World.cell?_setCell_same (h := c0) ..
  refine ⟨?_, (World.cell?_setCell_other (h := n01.symm) ..).trans e0, World.cell?_setCell_same (h := e1) .., ?_, ?_, ?_, ?_⟩
  · rcases hout with h | h
    · exact .inl h
    · exact .inr (ownsRow_setCell_below (ownsRow_setCell_below h (by exact Nat.lt_succ_self _) _) (by exact Nat.lt_succ_self _) _)
  · exact ((World.frozen?_setCell _ _ _ _).trans (World.frozen?_setCell _ _ _ _)).trans f0
  · exact ((World.frozen?_setCell _ _ _ _).trans (World.frozen?_setCell _ _ _ _)).trans f1
  · exact ((hb.setCell (p := ⟨w.heap.size, 0, none⟩) (Nat.le_refl _) _).setCell (p := ⟨w.heap.size, 1, none⟩) (Nat.le_refl _) _).drew
  · simpa [World.setCell] using hR

theorem own_mono {w : World} {base base' : Nat} {e : TypeId} {size : Nat} {v : Value} {n : Nat} {xs : List Value} (h : w.ownsRow base e size v n xs) (hb : base' ≤ base) : w.ownsRow base' e size v n xs :=
  ⟨h.1, h.2.elim Or.inl fun ⟨g, cap, cur, h1, h2, h3⟩ => Or.inr ⟨g, cap, cur, h1, Nat.le_trans hb h2, h3⟩⟩
theorem own_row {w : World} {base : Nat} {e : TypeId} {size : Nat} {v : Value} {n : Nat} {xs : List Value} (h : w.ownsRow (base + 1) e size v n xs) : ∀ k, v.ownBlock = some k → base < k := by
  intro k hk
  rcases h.2 with ⟨rfl, _⟩ | ⟨g, cap, cur, rfl, h2, _⟩
  · simp [Value.ownBlock] at hk
  · simp [Value.ownBlock] at hk; omega

set_option maxHeartbeats 1600000 in
set_option maxRecDepth 1000000 in
theorem append_any (a : Option Addr) (l : List ByteArray) (t id : ByteArray) (p : Option Addr) (ts : List ByteArray) (w : World) (hs : StrsAt w a l) (hc : Chain w p ts) (hl : l.length + ts.length ≤ 100000) :
    Calls Try.prog 22 #[.slice a l.length l.length, .agg #[.string t, .string id], .pointer p] w fun e w' =>
      ∃ a' c', e = .returned (.slice a' ((t :: ts).foldl addB l).length c') ∧ StrsAt w' a' ((t :: ts).foldl addB l) ∧ Below w.heap.size w w' := by
  obtain ⟨i0, hi, hz0, hz1, hz2⟩ := info_parts Try.info9
  obtain ⟨F, hF⟩ : ∃ F, (t :: ts).foldl addB l = F := ⟨_, rfl⟩
  rw [hF]
  have HF : Hid ((t :: ts).foldl addB l = F) := hF
  clear hF
  go_enter Try.func22, Try.ntmps22
  go_wp2
  go_loopg [0, 2] (ts.length) (fun k v q wr => ∃ (T ts' : List ByteArray) (c : ByteArray) (q' : Option Addr), q = .pointer q' ∧ ts'.length = k ∧ T.length + k ≤ l.length + ts.length ∧ OutIs wr a l (w.heap.size + 1) v T ∧ Chain w q' ts' ∧
    wr.cell? ⟨w.heap.size, 0, none⟩ = some (.string c) ∧ (∃ d, wr.cell? ⟨w.heap.size, 1, none⟩ = some (.string d)) ∧ wr.frozen? ⟨w.heap.size, 0, none⟩ = false ∧ wr.frozen? ⟨w.heap.size, 1, none⟩ = false ∧
    (c :: ts').foldl addB T = F ∧ Below w.heap.size w wr ∧ w.heap.size < wr.heap.size)
  case atStart =>
    exact ⟨l, ts, t, p, rfl, rfl, Nat.le_refl _, .inl ⟨rfl, rfl⟩, hc, by simp, ⟨id, by simp⟩, by simp, by simp, HF.out, (Below.refl _ _).alloc (Nat.le_refl _) _, by simp⟩
  case round =>
    obtain ⟨T, ts', c, q', rfl, hgk, hT, hout, hch, c0, ⟨d, c1⟩, f0, f1, heq, hb, hR⟩ := hrel
    obtain ⟨a', c', hv, hsT⟩ := strs_out (hs.later hb) hout
    have HE : Hid ((c :: ts').foldl addB T = F) := heq
    clear heq
    by_cases hm : c.toList ∈ keys T
    · have hdec : decide (c.toList ∈ keys T) = true := by simp [hm]
      subst hv
      have HE' : Hid (ts'.foldl addB T = F) := by have := HE.out; rw [List.foldl_cons, addB, if_pos hm] at this; exact this
      clear hm
      go_wp2_with fail
      refine (holds_any a' c' T c wr hsT (by omega)).mono ?_
      rintro e w' ⟨rfl, hw⟩
      obtain rfl := hw.symm
      rw [hdec]
      cases ts' with
      | nil =>
        obtain rfl : q' = none := hch
        have E : T = F := HE'.out
        subst E
        go_wp2
        go_ret
        exact ⟨a', c', rfl, hsT, hb⟩
      | cons t' ts'' =>
        obtain ⟨b, id', q, rfl, hlt, o0, o1, o2, hch'⟩ := hch
        have k0 : wr.cell? ⟨b, 0, none⟩ = some (.string t') := (hb.cell (p := ⟨b, 0, none⟩) hlt).trans o0
        have k1 : wr.cell? ⟨b, 1, none⟩ = some (.string id') := (hb.cell (p := ⟨b, 1, none⟩) hlt).trans o1
        have k2 : wr.cell? ⟨b, 2, none⟩ = some (.pointer q) := (hb.cell (p := ⟨b, 2, none⟩) hlt).trans o2
        have hne : b ≠ w.heap.size := by omega
        clear o0 o1 o2
        go_wp2
        go_region
        all_goals go_wp2
        all_goals go_roundg ts''.length
        case measure => simp at hgk; omega
        case rel =>
          have R := box_after (t' := t') (id' := id') hb hR hout c0 c1 f0 f1
          exact ⟨T, ts'', t', q, rfl, rfl, by simp at hgk; omega, R.1, hch', R.2.1, ⟨id', R.2.2.1⟩, R.2.2.2.1, R.2.2.2.2.1, HE'.out, R.2.2.2.2.2.1, R.2.2.2.2.2.2⟩
    · have hdec : decide (c.toList ∈ keys T) = false := by simp [hm]
      have HE' : Hid (ts'.foldl addB (T ++ [c]) = F) := by have := HE.out; rw [List.foldl_cons, addB, if_neg hm] at this; exact this
      clear hm
      have hone : ∀ (j : Nat) (u : Value), [Value.string c][j]? = some u → (wr.alloc (.cells #[.string c] 9)).cell? ((⟨wr.heap.size, 0, none⟩ : Addr).add j) = some u := by
        intro j u hj
        match j, hj with
        | 0, hj => simp at hj; subst hj; simp [Addr.add]
      rcases hout with ⟨rfl, rfl⟩ | hown
      · -- the slice that came in is full: a new array
        have holds : ∀ b, a = some b → ∀ (j : Nat) (u : Value), (T.map Value.string)[j]? = some u → (wr.alloc (.cells #[.string c] 9)).cell? (b.add j) = some u := by
          intro b hb' j u hu
          obtain ⟨hj, rfl⟩ := List.getElem?_eq_some_iff.1 hu
          rw [List.length_map] at hj
          obtain ⟨bb, off, e, hlt, hcell⟩ := (hs.later hb) j hj
          rw [e] at hb'
          obtain rfl : (⟨bb, off, none⟩ : Addr) = b := by simpa using hb'
          rw [Addr.add_lit, World.cell?_alloc_lt (h := by exact hlt) .., hcell]
          simp [List.getD_eq_getElem?_getD, List.getElem?_eq_getElem hj]
        have hnil : a = none → T.length = 0 := by
          intro h
          rcases Nat.eq_zero_or_pos T.length with h0 | h0
          · exact h0
          · obtain ⟨_, _, e, _⟩ := hs 0 h0
            rw [e] at h; simp at h
        go_wp2_with fail
        refine (holds_any a T.length T c wr (hs.later hb) (by omega)).mono ?_
        rintro e w' ⟨rfl, hw⟩
        obtain rfl := hw.symm
        rw [hdec]
        go_wp2_with (at_builtin; refine wpList_append_grows _ rfl (.tmp 12) (.tmp 15) 25 rfl 9 i0 (.string ByteArray.empty) 1 16 Try.underlying25 hi hz0 hz1 hz2 rfl (by decide) a T.length T.length (T.map Value.string) rfl ?q1 ?q2 ?q3 ⟨wr.heap.size, 0, none⟩ 1 1 [.string c] rfl rfl hone ?q4 ?q5 ?q6 ?q7 ?_)
        case q1 => exact fun h => ⟨hnil h, hnil h⟩
        case q2 => simp
        case q3 => exact holds
        case q4 => intro u hu; simp at hu; subst hu; rfl
        case q5 => omega
        case q6 => unfold maxLen; omega
        case q7 => omega
        intro v' w1 hown0 hgrow0
        have hown' : w1.ownsRow (w.heap.size + 1) 9 1 v' (T.length + 1) (T.map Value.string ++ [.string c]) := own_mono hown0 (by omega)
        have hgrow : (wr.alloc (.cells #[.string c] 9)).grownBy w1 (Value.slice none 0 0).ownBlock := hgrow0
        clear hown0 hgrow0 holds hnil
        obtain ⟨O1, O2, O3, O4, O5, O6, O7⟩ := own_after hR hb (fun k h => by simp [Value.ownBlock] at h) c0 c1 f0 f1 hown' hgrow
        obtain ⟨a2, c2, hv2, hs2⟩ := strs_own O1
        clear c0 c1 f0 f1 hown' hgrow hone hdec HE hsT
        subst hv2
        cases ts' with
        | nil =>
          obtain rfl : q' = none := hch
          have E : T ++ [c] = F := HE'.out
          subst E
          go_wp2
          go_ret
          exact ⟨a2, c2, rfl, hs2, O6⟩
        | cons t' ts'' =>
          obtain ⟨b, id', q, rfl, hlt, o0, o1, o2, hch'⟩ := hch
          have k0 : w1.cell? ⟨b, 0, none⟩ = some (.string t') := (O6.cell (p := ⟨b, 0, none⟩) hlt).trans o0
          have k1 : w1.cell? ⟨b, 1, none⟩ = some (.string id') := (O6.cell (p := ⟨b, 1, none⟩) hlt).trans o1
          have k2 : w1.cell? ⟨b, 2, none⟩ = some (.pointer q) := (O6.cell (p := ⟨b, 2, none⟩) hlt).trans o2
          have hne : b ≠ w.heap.size := by omega
          clear o0 o1 o2
          go_wp2
          go_region
          all_goals go_wp2
          all_goals go_roundg ts''.length
          case measure => simp at hgk; omega
          case rel =>
            have R := box_after (a := a) (l := T) (t' := t') (id' := id') O6 O7 (.inr O1) O2 O3 O4 O5
            exact ⟨T ++ [c], ts'', t', q, rfl, rfl, by simp at hgk ⊢; omega, R.1, hch', R.2.1, ⟨id', R.2.2.1⟩, R.2.2.2.1, R.2.2.2.2.1, HE'.out, R.2.2.2.2.2.1, R.2.2.2.2.2.2⟩
      · -- it is the call's own already
        subst hv
        go_wp2_with fail
        refine (holds_any a' c' T c wr hsT (by omega)).mono ?_
        rintro e w' ⟨rfl, hw⟩
        obtain rfl := hw.symm
        rw [hdec]
        go_wp2_with (at_builtin; refine wpList_append_own _ rfl (.tmp 12) (.tmp 15) 25 rfl (w.heap.size + 1) 9 i0 (.string ByteArray.empty) 1 16 Try.underlying25 hi hz0 hz1 hz2 rfl (by decide) _ T.length (T.map Value.string) rfl (hown.alloc _) ⟨wr.heap.size, 0, none⟩ 1 1 [.string c] rfl rfl hone ?q4 ?q6 ?q7 ?q8 ?_)
        case q4 => intro u hu; simp at hu; subst hu; rfl
        case q6 => unfold maxLen; omega
        case q7 => omega
        case q8 => simp; omega
        intro v' w1 hown' hgrow _
        have hrow : ∀ k, (Value.slice a' T.length c').ownBlock = some k → w.heap.size < k := own_row hown
        clear hown
        obtain ⟨O1, O2, O3, O4, O5, O6, O7⟩ := own_after hR hb hrow c0 c1 f0 f1 hown' hgrow
        obtain ⟨a2, c2, hv2, hs2⟩ := strs_own O1
        clear c0 c1 f0 f1 hown' hgrow hone hdec HE hsT
        subst hv2
        cases ts' with
        | nil =>
          obtain rfl : q' = none := hch
          have E : T ++ [c] = F := HE'.out
          subst E
          go_wp2
          go_ret
          exact ⟨a2, c2, rfl, hs2, O6⟩
        | cons t' ts'' =>
          obtain ⟨b, id', q, rfl, hlt, o0, o1, o2, hch'⟩ := hch
          have k0 : w1.cell? ⟨b, 0, none⟩ = some (.string t') := (O6.cell (p := ⟨b, 0, none⟩) hlt).trans o0
          have k1 : w1.cell? ⟨b, 1, none⟩ = some (.string id') := (O6.cell (p := ⟨b, 1, none⟩) hlt).trans o1
          have k2 : w1.cell? ⟨b, 2, none⟩ = some (.pointer q) := (O6.cell (p := ⟨b, 2, none⟩) hlt).trans o2
          have hne : b ≠ w.heap.size := by omega
          clear o0 o1 o2
          go_wp2
          go_region
          all_goals go_wp2
          all_goals go_roundg ts''.length
          case measure => simp at hgk; omega
          case rel =>
            have R := box_after (a := a) (l := l) (t' := t') (id' := id') O6 O7 (.inr O1) O2 O3 O4 O5
            exact ⟨T ++ [c], ts'', t', q, rfl, rfl, by simp at hgk ⊢; omega, R.1, hch', R.2.1, ⟨id', R.2.2.1⟩, R.2.2.2.1, R.2.2.2.2.1, HE'.out, R.2.2.2.2.2.1, R.2.2.2.2.2.2⟩
end Go.Proofs.Qxb6603768a

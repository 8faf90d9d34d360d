import Derived.Test.Qxb6603622aRows
import Derived.WalkKit
import Derived.ProofKit
import Derived.OpenShut
import Derived.Below
import Derived.Deep.RegionLaw
namespace Go.Proofs.Qxb6603622a
open Go.ChangeShapes Go.WideShapes Go.ChangeAt Go.RowKit

def zeroNode : Value := .agg #[.int .u8 0, .bool false, .int .u32 0, .int .u32 0, .int .u32 0]
theorem Try.info54 : (Try.prog.info? 54).map (fun i => (i.zero, i.size, i.bytes)) = some (some zeroNode, 5, 16) := by kernel_rfl

/-- A node of kind k, all else zero: its cells. -/
def nodeOf (k : Int) : List Value := [.int .u8 k, .bool false, .int .u32 0, .int .u32 0, .int .u32 0]
def nodeCells : List Int → List Value
  | [] => []
  | k :: ks => nodeOf k ++ nodeCells ks
theorem nodeCells_snoc : ∀ (ks : List Int) (k : Int), nodeCells (ks ++ [k]) = nodeCells ks ++ nodeOf k
  | [], k => by simp [nodeCells]
  | x :: ks, k => by simp [nodeCells, nodeCells_snoc ks k]
theorem nodeCells_get : ∀ (ks : List Int) (i : Nat), i < ks.length → (nodeCells ks)[i * 5]? = some (.int .u8 (ks.getD i 0)) ∧ (nodeCells ks)[i * 5 + 4]? = some (.int .u32 0)
  | [], i, h => by simp at h
  | k :: ks, 0, _ => ⟨rfl, rfl⟩
  | k :: ks, i + 1, h => by
    have ih := nodeCells_get ks i (by simpa using h)
    have e : (nodeOf k).length = 5 := rfl
    constructor
    · rw [nodeCells, List.getElem?_append_right (by rw [e]; omega), e, show (i + 1) * 5 - 5 = i * 5 by omega, ih.1]; rfl
    · rw [nodeCells, List.getElem?_append_right (by rw [e]; omega), e, show (i + 1) * 5 + 4 - 5 = i * 5 + 4 by omega, ih.2]

/-- Where the document (block B) and its parser (block B + 1) stand: the nodes have the kinds ks. -/
structure St (w : World) (B : Nat) (ks : List Int) (v : Value) (pos : Int) : Prop where
  nodes : w.cell? ⟨B, 1, none⟩ = some v
  nodesF : w.frozen? ⟨B, 1, none⟩ = false
  doc : w.cell? ⟨B + 1, 0, none⟩ = some (.pointer (some ⟨B, 0, none⟩))
  pos : w.cell? ⟨B + 1, 1, none⟩ = some (.int .i64 pos)
  posF : w.frozen? ⟨B + 1, 1, none⟩ = false
  own : w.ownsRow (B + 2) 54 5 v ks.length (nodeCells ks)
  size : B + 2 ≤ w.heap.size

theorem own_block {w w' : World} {base : Nat} {e : TypeId} {size : Nat} {v : Value} {n : Nat} {xs : List Value} (h : w.ownsRow base e size v n xs) (hb : ∀ k, k < w.heap.size → w'.heap[k]? = w.heap[k]?) : w'.ownsRow base e size v n xs := by
  refine ⟨h.1, h.2.elim Or.inl fun ⟨g, cap, cur, h1, h2, h3, h4⟩ => Or.inr ⟨g, cap, cur, h1, h2, ?_, h4⟩⟩
  rw [hb g (Array.getElem?_eq_some_iff.1 h3).1]; exact h3

theorem St.later {w w' : World} {B : Nat} {ks : List Int} {v : Value} {pos : Int} (h : St w B ks v pos) (hb : Below w.heap.size w w') : St w' B ks v pos := by
  have hs := h.size
  exact ⟨(hb.cell (p := ⟨B, 1, none⟩) (by show B < _; omega)).trans h.nodes, (hb.frozen (p := ⟨B, 1, none⟩) (by show B < _; omega)).trans h.nodesF, (hb.cell (p := ⟨B + 1, 0, none⟩) (by show B + 1 < _; omega)).trans h.doc,
    (hb.cell (p := ⟨B + 1, 1, none⟩) (by show B + 1 < _; omega)).trans h.pos, (hb.frozen (p := ⟨B + 1, 1, none⟩) (by show B + 1 < _; omega)).trans h.posF, own_block h.own hb.block, by have := hb.size; omega⟩

/-- The slice value, written out. -/
theorem own_form {w : World} {base : Nat} {e : TypeId} {size : Nat} {v : Value} {n : Nat} {xs : List Value} (h : w.ownsRow base e size v n xs) : ∃ a c, v = .slice a n c ∧ ∀ k, v.ownBlock = some k → base ≤ k ∧ k < w.heap.size := by
  rcases h.2 with ⟨rfl, rfl⟩ | ⟨g, cap, cur, rfl, h2, h3, _⟩
  · exact ⟨none, 0, rfl, fun k hk => by simp [Value.ownBlock] at hk⟩
  · exact ⟨_, cap, rfl, fun k hk => by simp [Value.ownBlock] at hk; subst hk; exact ⟨h2, (Array.getElem?_eq_some_iff.1 h3).1⟩⟩

def RetB (e : Ending) : Prop := ∃ r : Bool, e = .returned (.bool r)

theorem bytes_any (p : Int) (a1 : Option Addr) (n1 c1 : Nat) (a2 : Option Addr) (n2 c2 : Nat) (w : World) (h1 : n1 ≤ 9223372036854775807) (h2 : n2 ≤ 9223372036854775807) :
    Calls Try.prog 12 #[.int .i64 p, .slice a1 n1 c1, .slice a2 n2 c2] w fun e w' => RetB e ∧ w' = w := by
  by_cases g1 : 1048576 < n1
  · go_enter Try.func12, Try.ntmps12
    go_wp2
    go_ret
    exact ⟨⟨false, rfl⟩, rfl⟩
  by_cases g2 : 1048576 < n2
  · go_enter Try.func12, Try.ntmps12
    go_wp2
    go_ret
    exact ⟨⟨false, rfl⟩, rfl⟩
  by_cases g3 : 1048576 < n1 + n2
  · go_enter Try.func12, Try.ntmps12
    go_wp2
    go_ret
    exact ⟨⟨false, rfl⟩, rfl⟩
  · go_enter Try.func12, Try.ntmps12
    go_wp2
    go_ret
    exact ⟨⟨true, rfl⟩, rfl⟩

theorem newparser_any (s : ByteArray) (p : Int) (w : World) :
    Calls Try.prog 13 #[.string s, .int .i64 p] w fun e w' => e = .returned (.pointer (some ⟨w.heap.size + 1, 0, none⟩)) ∧ St w' w.heap.size [] (.slice none 0 0) p ∧ Below w.heap.size w w' := by
  go_enter Try.func13, Try.ntmps13
  go_wp2
  go_ret
  refine ⟨rfl, ⟨?_, ?_, ?_, ?_, ?_, World.ownsRow_nil _ _ _ _, ?_⟩, ?_⟩
  · simp
  · simp
  · simp
  · simp
  · simp
  · simp
  · exact ((Below.refl _ _).alloc (Nat.le_refl _) _).alloc (by simp) _

theorem parserdoc_any (B : Nat) (ks : List Int) (v : Value) (pos : Int) (w : World) (h : St w B ks v pos) :
    Calls Try.prog 14 #[.pointer (some ⟨B + 1, 0, none⟩)] w fun e w' => e = .returned (.pointer (some ⟨B, 0, none⟩)) ∧ w' = w := by
  have hd := h.doc
  go_enter Try.func14, Try.ntmps14
  go_wp2
  go_ret
  exact ⟨rfl, rfl⟩

theorem count_any (B : Nat) (ks : List Int) (v : Value) (pos : Int) (w : World) (h : St w B ks v pos) :
    Calls Try.prog 17 #[.pointer (some ⟨B, 0, none⟩)] w fun e w' => e = .returned (.int .i64 ks.length) ∧ w' = w := by
  obtain ⟨a, c, rfl, _⟩ := own_form h.own
  have hd := h.nodes
  go_enter Try.func17, Try.ntmps17
  go_wp2
  go_ret
  exact ⟨rfl, rfl⟩

/-! ### one node more -/
/-- append onto a slice that the call itself made, as one step of a region that draws. -/
theorem step_append_own {P : Program} {ops : Array Oper} {o : Oper} {a : Act} {w : World} {K : Act → World → Prop} {Q : Exit → Act → World → Prop} {E : Prop}
    (hg : o.guard = none) (s x : Operand) (t : TypeId) (hop : o.op = Op.call { callee := Callee.builtin Builtin.append, args := #[s, x], argTypes := #[t, t] })
    (base : Nat) (e : TypeId) (i : TypeInfo) (z : Value) (size bytes : Nat) (h1 : P.underlying t = some (.slice e)) (h2 : P.info? e = some i) (h3 : i.zero = some z) (h4 : i.size = size) (h5 : i.bytes = bytes) (h6 : z.cells.size = size) (h7 : 0 < size)
    (v : Value) (n : Nat) (xs : List Value) (hs : a.eval s = v) (hown : w.ownsRow base e size v n xs)
    (ad : Addr) (m c : Nat) (news : List Value) (hx : a.eval x = .slice (some ad) m c) (hn : news.length = m * size) (hc : ∀ j u, news[j]? = some u → w.cell? (ad.add j) = some u) (h1c : ∀ u ∈ news, u.oneCell' = true)
    (b1 : n + m ≤ maxLen) (b2 : (n + m) * bytes ≤ 140737488355328) (hbase : base ≤ w.heap.size)
    (hK : ∀ v' w', w'.ownsRow base e size v' (n + m) (xs ++ news) → w.grownBy w' v.ownBlock → K (a.put o.dst v') w') :
    if Region.wanted o (yielded ops a.tmps) = true then Oper.wp P o a w K Q else E := by
  have hw : Region.wanted o (yielded ops a.tmps) = true := by simp [Region.wanted, hg]
  rw [if_pos hw]
  obtain ⟨v', w', hrun, r1, r2, _⟩ := run_append_own (P := P) w base t o.type e i z size bytes h1 h2 h3 h4 h5 h6 h7 v n xs hown ad m c news hn hc h1c b1 b2 hbase
  unfold Oper.wp
  simp [execOp, hop, resolve, invoke, builtin, hs, hx, hrun, Result.andThen]
  exact hK v' w' r1 r2

theorem node_new (w : World) (k : Int) : ∀ (j : Nat) (u : Value), (nodeOf k)[j]? = some u → (w.alloc (.cells #[.int .u8 k, .bool false, .int .u32 0, .int .u32 0, .int .u32 0] 54)).cell? ((⟨w.heap.size, 0, none⟩ : Addr).add j) = some u := by
  intro j u hj
  have hlt := (List.getElem?_eq_some_iff.1 hj).1
  have : j < 5 := hlt
  rw [Addr.add_lit, Nat.zero_add, World.cell?_alloc_new]
  rw [← hj]
  match j, this with
  | 0, _ => rfl
  | 1, _ => rfl
  | 2, _ => rfl
  | 3, _ => rfl
  | 4, _ => rfl
theorem node_one (k : Int) : ∀ u ∈ nodeOf k, u.oneCell' = true := by
  intro u hu
  simp only [nodeOf, List.mem_cons, List.not_mem_nil, or_false] at hu
  rcases hu with rfl | rfl | rfl | rfl | rfl <;> rfl

/-- Behind the append and ahead of the store: all but the row of nodes is as it was. -/
theorem St.grown {w w1 : World} {B : Nat} {ks : List Int} {v v' : Value} {pos k : Int} {o : Obj} (h : St w B ks v pos)
    (hown : w1.ownsRow (B + 2) 54 5 v' (ks.length + 1) (nodeCells ks ++ nodeOf k)) (hg : (w.alloc o).grownBy w1 v.ownBlock) :
    w1.cell? ⟨B, 1, none⟩ = some v ∧ w1.frozen? ⟨B, 1, none⟩ = false ∧ w1.cell? ⟨B + 1, 0, none⟩ = some (.pointer (some ⟨B, 0, none⟩)) ∧ w1.cell? ⟨B + 1, 1, none⟩ = some (.int .i64 pos) ∧ w1.frozen? ⟨B + 1, 1, none⟩ = false ∧
      w1.ownsRow (B + 2) 54 5 v' (ks ++ [k]).length (nodeCells (ks ++ [k])) ∧ B + 2 ≤ w1.heap.size ∧ Below B w w1 := by
  have hs := h.size
  obtain ⟨_, _, _, hrow⟩ := own_form h.own
  have hsz : w.heap.size < (w.alloc o).heap.size := by simp
  have e : ∀ b, b < B + 2 → w1.heap[b]? = w.heap[b]? := fun b hb => (hg.block b (by omega) (fun e => by have := (hrow b e.symm).1; omega)).trans (Below.heap_alloc _ _ _ (by omega))
  refine ⟨(World.cell?_of_block (a := ⟨B, 1, none⟩) (e B (by omega))).trans h.nodes, (World.frozen?_of_block (a := ⟨B, 1, none⟩) (e B (by omega))).trans h.nodesF, (World.cell?_of_block (a := ⟨B + 1, 0, none⟩) (e (B + 1) (by omega))).trans h.doc,
    (World.cell?_of_block (a := ⟨B + 1, 1, none⟩) (e (B + 1) (by omega))).trans h.pos, (World.frozen?_of_block (a := ⟨B + 1, 1, none⟩) (e (B + 1) (by omega))).trans h.posF, by rw [nodeCells_snoc]; simpa using hown, by have := hg.size; omega, ?_⟩
  exact ((Below.refl _ _).alloc (by omega) _).grown hg (by omega) (fun k' hk => by have := (hrow k' hk).1; omega)

theorem St.stored {w1 : World} {B : Nat} {ks : List Int} {v v' : Value} {pos : Int}
    (s1 : w1.cell? ⟨B, 1, none⟩ = some v) (s2 : w1.frozen? ⟨B, 1, none⟩ = false) (s3 : w1.cell? ⟨B + 1, 0, none⟩ = some (.pointer (some ⟨B, 0, none⟩))) (s4 : w1.cell? ⟨B + 1, 1, none⟩ = some (.int .i64 pos)) (s5 : w1.frozen? ⟨B + 1, 1, none⟩ = false)
    (s6 : w1.ownsRow (B + 2) 54 5 v' ks.length (nodeCells ks)) (s7 : B + 2 ≤ w1.heap.size) : St (w1.setCell ⟨B, 1, none⟩ v') B ks v' pos := by
  have n1 : (⟨B, 1, none⟩ : Addr) ≠ ⟨B + 1, 0, none⟩ := by simp
  have n2 : (⟨B, 1, none⟩ : Addr) ≠ ⟨B + 1, 1, none⟩ := by simp
  exact ⟨World.cell?_setCell_same (h := s1) .., (World.frozen?_setCell _ _ _ _).trans s2, (World.cell?_setCell_other (h := n1) ..).trans s3, (World.cell?_setCell_other (h := n2) ..).trans s4, (World.frozen?_setCell _ _ _ _).trans s5,
    ownsRow_setCell_below s6 (by show B < B + 2; omega) _, by simpa [World.setCell] using s7⟩

theorem St.moved {w1 : World} {B : Nat} {ks : List Int} {v : Value} {pos : Int} (h : St w1 B ks v pos) (pos' : Int) : St (w1.setCell ⟨B + 1, 1, none⟩ (.int .i64 pos')) B ks v pos' := by
  have n1 : (⟨B + 1, 1, none⟩ : Addr) ≠ ⟨B, 1, none⟩ := by simp
  have n2 : (⟨B + 1, 1, none⟩ : Addr) ≠ ⟨B + 1, 0, none⟩ := by simp
  exact ⟨(World.cell?_setCell_other (h := n1) ..).trans h.nodes, (World.frozen?_setCell _ _ _ _).trans h.nodesF, (World.cell?_setCell_other (h := n2) ..).trans h.doc, World.cell?_setCell_same (h := h.pos) .., (World.frozen?_setCell _ _ _ _).trans h.posF,
    ownsRow_setCell_below h.own (by show B + 1 < B + 2; omega) _, by simpa [World.setCell] using h.size⟩

theorem addnode_any (B : Nat) (ks : List Int) (v : Value) (pos k : Int) (w : World) (h : St w B ks v pos) (hn : ks.length ≤ 1000000) :
    Calls Try.prog 15 #[.pointer (some ⟨B, 0, none⟩), .int .u8 k, .int .u32 0] w fun e w' => ∃ v', e = .returned (.tuple #[]) ∧ St w' B (ks ++ [k]) v' pos ∧ Below B w w' := by
  obtain ⟨i0, hi, hz0, hz1, hz2⟩ := info_parts Try.info54
  obtain ⟨a, c, hv, hrow⟩ := own_form h.own
  have hd := h.nodes
  have hf := h.nodesF
  have hs := h.size
  have hnew := node_new w k
  have hown := h.own
  subst hv
  go_enter Try.func15, Try.ntmps15
  go_wp2_with (at_builtin; refine wpList_append_own _ rfl (.tmp 10) (.tmp 14) 47 rfl (B + 2) 54 i0 zeroNode 5 16 Try.underlying47 hi hz0 hz1 hz2 rfl (by decide) _ ks.length (nodeCells ks) rfl (hown.alloc _) ⟨w.heap.size, 0, none⟩ 1 1 (nodeOf k) rfl rfl hnew (node_one k) ?q1 ?q2 ?q3 ?_)
  case q1 => unfold maxLen; omega
  case q2 => omega
  case q3 => simp; omega
  intro v' w1 hown1 hg1 _
  obtain ⟨s1, s2, s3, s4, s5, s6, s7, s8⟩ := h.grown hown1 hg1
  obtain ⟨a', c', hv', hrow'⟩ := own_form s6
  clear hown1 hg1 hnew hown hd hf hrow h
  subst hv'
  go_wp2
  go_end0
  have S := St.stored s1 s2 s3 s4 s5 s6 s7
  rw [List.length_append] at S
  exact ⟨_, rfl, S, s8.setCell (p := ⟨B, 1, none⟩) (Nat.le_refl _) _⟩

set_option maxHeartbeats 1600000 in
set_option maxRecDepth 1000000 in
theorem open_any (B : Nat) (ks : List Int) (v : Value) (pos k : Int) (w : World) (h : St w B ks v pos) (hn : ks.length ≤ 1000000) :
    Calls Try.prog 21 #[.pointer (some ⟨B + 1, 0, none⟩), .int .u8 k] w fun e w' => ∃ v' pos', e = .returned (.int .u32 ks.length) ∧ St w' B (ks ++ [k]) v' pos' ∧ Below B w w' := by
  obtain ⟨i0, hi, hz0, hz1, hz2⟩ := info_parts Try.info54
  obtain ⟨a, c, hv, hrow⟩ := own_form h.own
  have hd := h.nodes
  have hf := h.nodesF
  have hp := h.doc
  have hq := h.pos
  have hqf := h.posF
  have hs := h.size
  have hnew : Hid (_) := node_new w k
  have HS : Hid (St w B ks v pos) := h
  have hown : w.ownsRow (B + 2) 54 5 v ks.length (nodeCells ks) := h.own
  have hone : Hid (_) := node_one k
  have b1 : Hid (ks.length + 1 ≤ maxLen) := by unfold maxLen Hid; omega
  have b2 : Hid ((ks.length + 1) * 16 ≤ 140737488355328) := by unfold Hid; omega
  have hA1 : ∀ o, (w.alloc o).cell? ⟨B, 1, none⟩ = some v := fun o => (World.cell?_alloc_lt (h := by show B < _; omega) ..).trans hd
  have hA2 : ∀ o, (w.alloc o).cell? ⟨B + 1, 0, none⟩ = some (.pointer (some ⟨B, 0, none⟩)) := fun o => (World.cell?_alloc_lt (h := by show B + 1 < _; omega) ..).trans hp
  clear h hrow
  subst hv
  go_enter Try.func21, Try.ntmps21
  go_wp2
  go_region_law (refine step_append_own rfl (.tmp 25) (.tmp 28) 47 rfl (B + 2) 54 i0 zeroNode 5 16 Try.underlying47 hi hz0 hz1 hz2 rfl (by decide) (.slice a ks.length c) ks.length (nodeCells ks) (by simp [Act.eval]) (hown.alloc _).drew ⟨w.heap.size, 0, none⟩ 1 1 (nodeOf k) (by simp [Act.eval]) rfl hnew.out hone.out b1.out b2.out (by simp; omega) ?_; intro v' w1 hown1 hg1; obtain ⟨s1, s2, s3, s4, s5, s6, s7, s8⟩ := St.grown HS.out hown1 ⟨hg1.os, hg1.tape, hg1.output, hg1.size, hg1.block⟩; obtain ⟨a', c', hv', hrow'⟩ := own_form s6; clear hown1 hg1 hown; subst hv')
  all_goals
    have S := St.stored s1 s2 s3 s4 s5 s6 s7
    rw [List.length_append] at S
    have S8 := s8.setCell (p := ⟨B, 1, none⟩) (Nat.le_refl _) (.slice a' (ks.length + [k].length) c')
    clear s1 s2 s3 s4 s5 s6 s7 s8 hA1 hA2 HS hnew hone b1 b2 hrow' hd hf hp hq hqf
    change St (w1.setCell ⟨B, 1, none⟩ (.slice a' (ks.length + 1) c')) B (ks ++ [k]) _ pos at S
    change Below B w (w1.setCell ⟨B, 1, none⟩ (.slice a' (ks.length + 1) c')) at S8
    generalize w1.setCell ⟨B, 1, none⟩ (.slice a' (ks.length + 1) c') = w2 at S S8 ⊢
    have q1 := S.pos
    have q2 := S.posF
    go_wp2
    go_ret
    exact ⟨_, _, rfl, S.moved _, S8.setCell (p := ⟨B + 1, 1, none⟩) (Nat.le_succ _) _⟩

theorem zzopen_any (B : Nat) (ks : List Int) (v : Value) (pos k : Int) (w : World) (h : St w B ks v pos) (hn : ks.length ≤ 1000000) :
    Calls Try.prog 16 #[.pointer (some ⟨B + 1, 0, none⟩), .int .u8 k] w fun e w' => ∃ v' pos', e = .returned (.int .u32 ks.length) ∧ St w' B (ks ++ [k]) v' pos' ∧ Below B w w' := by
  go_enter Try.func16, Try.ntmps16
  go_wp2_with (go_at_call 21; refine (open_any B ks v pos k _ h hn).mono ?_; rintro e w' ⟨v', pos', rfl, h', hb'⟩)
  go_ret
  exact ⟨v', pos', rfl, h', hb'⟩
end Go.Proofs.Qxb6603622a

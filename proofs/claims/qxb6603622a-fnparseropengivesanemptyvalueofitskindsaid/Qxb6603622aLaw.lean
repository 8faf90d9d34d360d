import Derived.Test.Qxb6603622aLen
import Derived.Deep.RegionWith
import Derived.Deep.OwnRows
namespace Go.Proofs.Qxb6603622a
open Go.ChangeShapes Go.WideShapes Go.ChangeAt Go.RowKit

/-- A []byte at a whose elements are the numbers l. -/
def BytesAt (w : World) (a : Option Addr) (l : List Int) : Prop :=
  ∀ i, i < l.length → ∃ b off, a = some ⟨b, off, none⟩ ∧ b < w.heap.size ∧ w.cell? ⟨b, off + i, none⟩ = some (.int .u8 (l.getD i 0))

theorem BytesAt.later {w w' : World} {a : Option Addr} {l : List Int} (h : BytesAt w a l) (hb : Below w.heap.size w w') : BytesAt w' a l := by
  intro i hi
  obtain ⟨b, off, e, hlt, hc⟩ := h i hi
  exact ⟨b, off, e, by have := hb.size; omega, (hb.cell (p := ⟨b, off + i, none⟩) hlt).trans hc⟩

theorem take_snoc (l : List Int) (k : Nat) (h : k < l.length) : l.take (k + 1) = l.take k ++ [l.getD k 0] := by
  rw [List.take_succ_eq_append_getElem h, List.getD_eq_getElem?_getD, List.getElem?_eq_getElem h]; rfl
theorem getD_snoc (l : List Int) (x : Int) : (l ++ [x]).getD l.length 0 = x := by
  rw [List.getD_eq_getElem?_getD, List.getElem?_append_right (Nat.le_refl _)]; simp
theorem getD_left (l m : List Int) (k : Nat) (h : k < l.length) : (l ++ m).getD k 0 = l.getD k 0 := by
  rw [List.getD_eq_getElem?_getD, List.getD_eq_getElem?_getD, List.getElem?_append_left h]

/-- v.Kind() in whatever world the region has come to, and what is read behind it. -/
theorem kind_there {W : World} {B b o nb i : Nat} {ks : List Int} {v : Value} {q x : Int} (hS : St W B ks v q) (hi : i < ks.length) (hx : ks.getD i 0 = x)
    (hc : W.cell? ⟨b, o, none⟩ = some (.int .u8 x)) (hb : b < W.heap.size) (n0 : W.cell? ⟨nb, 0, none⟩ = some (.pointer (some ⟨B, 0, none⟩))) (n1 : W.cell? ⟨nb, 1, none⟩ = some (.int .u32 i)) (hnb : nb < W.heap.size) :
    ∀ X, Below W.heap.size W X → Calls Try.prog 18 #[.agg #[.pointer (some ⟨B, 0, none⟩), .int .u32 i]] X fun e X' => e = .returned (.int .u8 x) ∧ Below W.heap.size W X' ∧
      X'.cell? ⟨b, o, none⟩ = some (.int .u8 x) ∧ X'.cell? ⟨nb, 0, none⟩ = some (.pointer (some ⟨B, 0, none⟩)) ∧ X'.cell? ⟨nb, 1, none⟩ = some (.int .u32 i) := by
  intro X hX
  refine (kind_any B i ks v q X (hS.later hX) hi).mono ?_
  rintro e X' ⟨rfl, hb'⟩
  have hWX : Below W.heap.size W X' := hX.trans (hb'.mono hX.size)
  exact ⟨by rw [hx], hWX, (hWX.cell (p := ⟨b, o, none⟩) hb).trans hc, (hWX.cell (p := ⟨nb, 0, none⟩) hnb).trans n0, (hWX.cell (p := ⟨nb, 1, none⟩) hnb).trans n1⟩

theorem kind_at {W : World} {B b o i : Nat} {ks : List Int} {v : Value} {q x : Int} (hS : St W B ks v q) (hi : i < ks.length) (hx : ks.getD i 0 = x)
    (hc : W.cell? ⟨b, o, none⟩ = some (.int .u8 x)) (hb : b < W.heap.size) :
    ∀ X, Below W.heap.size W X → Calls Try.prog 18 #[.agg #[.pointer (some ⟨B, 0, none⟩), .int .u32 i]] X fun e X' => e = .returned (.int .u8 x) ∧ Below W.heap.size W X' ∧ X'.cell? ⟨b, o, none⟩ = some (.int .u8 x) := by
  intro X hX
  refine (kind_any B i ks v q X (hS.later hX) hi).mono ?_
  rintro e X' ⟨rfl, hb'⟩
  have hWX : Below W.heap.size W X' := hX.trans (hb'.mono hX.size)
  exact ⟨by rw [hx], hWX, (hWX.cell (p := ⟨b, o, none⟩) hb).trans hc⟩

theorem value_at {W : World} {B b o i : Nat} {x : Int} (hc : W.cell? ⟨b, o, none⟩ = some (.int .u8 x)) (hb : b < W.heap.size) :
    ∀ X, Below W.heap.size W X → Calls Try.prog 9 #[.pointer (some ⟨B, 0, none⟩), .int .u32 i] X fun e X' => e = .returned (.agg #[.pointer (some ⟨B, 0, none⟩), .int .u32 i]) ∧ Below W.heap.size W X' ∧ X'.cell? ⟨b, o, none⟩ = some (.int .u8 x) := by
  intro X hX
  refine (valueat_any B i X).mono ?_
  rintro e X' ⟨rfl, hb'⟩
  have hWX : Below W.heap.size W X' := hX.trans (hb'.mono hX.size)
  exact ⟨rfl, hWX, (hWX.cell (p := ⟨b, o, none⟩) hb).trans hc⟩

theorem len_there {W : World} {B i : Nat} {ks : List Int} {v : Value} {q : Int} (hS : St W B ks v q) (hi : i < ks.length) (hn : ks.length ≤ 1000000) :
    ∀ X, Below W.heap.size W X → Calls Try.prog 10 #[.agg #[.pointer (some ⟨B, 0, none⟩), .int .u32 i]] X fun e X' => e = .returned (.int .i64 0) ∧ Below W.heap.size W X' := by
  intro X hX
  refine (len_any B i ks v q X (hS.later hX) hi hn).mono ?_
  rintro e X' ⟨rfl, hb'⟩
  exact ⟨rfl, hX.trans (hb'.mono hX.size)⟩

set_option maxHeartbeats 3200000 in
set_option maxRecDepth 1000000 in
theorem law_walk (p : Int) (a1 : Option Addr) (c1 : Nat) (l1 : List Int) (a2 : Option Addr) (c2 : Nat) (l2 : List Int) (w : World) (w1 : BytesAt w a1 l1) (w2 : BytesAt w a2 l2) (m1 : l1.length ≤ 9223372036854775807) (m2 : l2.length ≤ 9223372036854775807) :
    Calls Try.prog 5 #[.int .i64 p, .slice a1 l1.length c1, .slice a2 l2.length c2] w fun e w' => e = .returned (.bool true) ∧ Below w.heap.size w w' := by
  go_enter Try.func5, Try.ntmps5
  go_wp2_with fail
  refine (bytes_any p a1 l1.length c1 a2 l2.length c2 w m1 m2).mono ?_
  rintro e w' ⟨⟨r, rfl⟩, hw⟩
  obtain rfl := hw.symm
  cases r with
  | false =>
    go_wp2
    go_ret
    exact ⟨rfl, Below.refl _ _⟩
  | true =>
    by_cases h1 : 65536 < l1.length
    · go_wp2
      go_ret
      exact ⟨rfl, Below.refl _ _⟩
    by_cases h2 : 65536 < l2.length
    · go_wp2
      go_ret
      exact ⟨rfl, Below.refl _ _⟩
    go_wp2_with fail
    refine (newparser_any _ p w).mono ?_
    rintro e w3 ⟨rfl, hst, hb3⟩
    go_wp2_with fail
    refine (parserdoc_any w.heap.size _ _ _ w3 hst).mono ?_
    rintro e w' ⟨rfl, hw⟩
    obtain rfl := hw.symm
    go_wp2
    go_loopw [9] (fun i wr => ∃ (k : Nat) (v : Value) (q : Int), k ≤ l1.length ∧ i = .int .i64 k ∧ St wr w.heap.size (l1.take k) v q ∧ Below w.heap.size w wr) (fun i _ => l1.length - (intOf i).toNat)
    case atStart => exact ⟨0, _, _, Nat.zero_le _, rfl, hst, hb3⟩
    case round =>
      obtain ⟨k, v, q, hk, rfl, hS, hb⟩ := hrel
      by_cases hlt : k < l1.length
      · obtain ⟨b, off, rfl, _, hc⟩ := (w1.later hb) k hlt
        obtain ⟨x, hx⟩ : ∃ x, l1.getD k 0 = x := ⟨_, rfl⟩
        rw [hx] at hc
        have TS : Hid (l1.take (k + 1) = l1.take k ++ [x]) := by rw [take_snoc l1 k hlt, hx]; exact rfl
        clear hx hst hb3
        go_wp2_with fail
        refine (addnode_any w.heap.size (l1.take k) v q x wr hS (by simp; omega)).mono ?_
        rintro e w4 ⟨v4, rfl, hS4, hb4⟩
        rw [← TS.out] at hS4
        go_wp2
        go_roundw
        case rel => exact ⟨k + 1, v4, q, by omega, by go_num, hS4, hb.trans hb4⟩
        case measure => simp [intOf]; omega
      · obtain rfl : k = l1.length := by omega
        rw [List.take_length] at hS
        clear hst hb3
        go_wp2
        go_loopw [10] (fun i wx => ∃ (k : Nat) (v : Value) (q : Int), k ≤ l2.length ∧ i = .int .i64 k ∧ St wx w.heap.size (l1 ++ l2.take k) v q ∧ Below w.heap.size w wx) (fun i _ => l2.length - (intOf i).toNat)
        case atStart => exact ⟨0, v, q, Nat.zero_le _, rfl, by simpa using hS, hb⟩
        case round =>
          clear hS hb
          obtain ⟨k, v, q, hk, rfl, hS, hb⟩ := hrel
          by_cases hlt : k < l2.length
          · obtain ⟨b, off, rfl, hbl, hc0⟩ := w2 k hlt
            have hc : wr.cell? ⟨b, off + k, none⟩ = some (.int .u8 (l2.getD k 0)) := (hb.cell (p := ⟨b, off + k, none⟩) hbl).trans hc0
            obtain ⟨x, hx⟩ : ∃ x, l2.getD k 0 = x := ⟨_, rfl⟩
            rw [hx] at hc hc0
            have TS : Hid (l1 ++ l2.take (k + 1) = (l1 ++ l2.take k) ++ [x]) := by rw [take_snoc l2 k hlt, hx, List.append_assoc]; exact rfl
            obtain ⟨ks, hks⟩ : ∃ ks, l1 ++ l2.take k = ks := ⟨_, rfl⟩
            have hkl : ks.length = l1.length + k := by rw [← hks]; simp; omega
            rw [hks] at hS TS
            have HKL : Hid (ks.length = l1.length + k) := hkl
            have hn : ks.length ≤ 200000 := by omega
            clear hx hks hkl
            go_wp2_with fail
            refine (zzopen_any w.heap.size ks v q x wr hS (by omega)).mono ?_
            rintro e w4 ⟨v4, q4, rfl, hS4, hb4⟩
            have hb04 := hb.trans hb4
            go_wp2_with fail
            refine (count_any w.heap.size (ks ++ [x]) v4 q4 w4 hS4).mono ?_
            rintro e w' ⟨rfl, hw⟩
            obtain rfl := hw.symm
            rw [List.length_append]
            go_wp2_with fail
            refine (valueat_any w.heap.size ks.length w4).mono ?_
            rintro e w5 ⟨rfl, hb5⟩
            have hS5 := hS4.later hb5
            have hb05 : Below w.heap.size w w5 := hb04.trans (hb5.mono hb04.size)
            clear hS hb hc hS4 hb4 hb5 hb04
            go_wp2
            have hr := World.rowIs_alloc w5 #[.pointer (some ⟨w.heap.size, 0, none⟩), .int .u32 ks.length] 33 (fun j => if j = 0 then .pointer (some ⟨w.heap.size, 0, none⟩) else .int .u32 ks.length) (fun j hj => by
              have hj' : j < 2 := hj
              match j, hj' with
              | 0, _ => rfl
              | 1, _ => rfl)
            have n0 := hr.cell (i := 0) (by show 0 < 2; omega)
            have n1 := hr.cell (i := 1) (by show 1 < 2; omega)
            have hnb := hr.lt
            have hbW : Below w5.heap.size w5 (w5.alloc (.cells #[.pointer (some ⟨w.heap.size, 0, none⟩), .int .u32 ks.length] 33)) := (Below.refl _ _).alloc (Nat.le_refl _) _
            have hSW := hS5.later hbW
            have hb0W := hb05.trans (hbW.mono hb05.size)
            clear hr hbW hS5 hb05
            generalize w5.alloc (.cells #[.pointer (some ⟨w.heap.size, 0, none⟩), .int .u32 ks.length] 33) = W at n0 n1 hnb hSW hb0W ⊢
            generalize w5.heap.size = nb at n0 n1 hnb ⊢
            have hcW : W.cell? ⟨b, off + k, none⟩ = some (.int .u8 x) := (hb0W.cell (p := ⟨b, off + k, none⟩) hbl).trans hc0
            have hbW : b < W.heap.size := by have := hb0W.size; omega
            have K18 : Hid (_) := kind_there hSW (by simp) (getD_snoc ks x) hcW hbW n0 n1 hnb
            have K10 : Hid (_) := len_there (i := ks.length) hSW (by simp) (by simp; omega)
            have HS : Hid (St W w.heap.size (ks ++ [x]) v4 q4) := hSW
            have hkl : (k : Int) < (l2.length : Int) := by omega
            have n0' : W.cell? ⟨nb, 0, none⟩ = some (.pointer (some ⟨w.heap.size, 0, none⟩)) := n0
            have n1' : W.cell? ⟨nb, 1, none⟩ = some (.int .u32 ks.length) := n1
            clear hSW hc0 n0 n1
            go_region_with (first | (go_at_call 18; refine (K18.out _ ?_).mono ?_; exact (Below.refl _ _).drew; rintro e X1 ⟨rfl, hX1, x1, x2, x3⟩) | (go_at_call 10; refine (K10.out _ ?_).mono ?_; assumption; rintro e X2 ⟨rfl, hX2⟩))
            all_goals
              have S2 := HS.out.later hX2
              have B2 := hb0W.trans (hX2.mono hb0W.size)
              rw [← TS.out] at S2
              clear K18 K10 HS hX1 x1 x2 x3 hX2 n0' n1' hcW TS
              go_wp2
              go_roundw
              case rel => exact ⟨k + 1, v4, q4, by omega, by go_num, S2, B2⟩
              case measure => simp [intOf]; omega
          · obtain rfl : k = l2.length := by omega
            rw [List.take_length] at hS
            obtain ⟨w8, e8⟩ : ∃ x, x = wr := ⟨_, rfl⟩
            subst e8
            have hcnt : ¬ ((l1 ++ l2).length : Int) < (l1.length : Int) := by simp; omega
            have hcd : decide (((l1 ++ l2).length : Int) < (l1.length : Int)) = false := by simp; omega
            go_wp2_with fail
            refine (count_any w.heap.size (l1 ++ l2) v q w8 hS).mono ?_
            rintro e w' ⟨rfl, hw⟩
            obtain rfl := hw.symm
            go_wp2
            go_loopw [13] (fun i wx => ∃ k : Nat, k ≤ l1.length ∧ i = .int .i64 k ∧ Below w8.heap.size w8 wx) (fun i _ => l1.length - (intOf i).toNat)
            case atStart => exact ⟨0, Nat.zero_le _, rfl, Below.refl _ _⟩
            case round =>
              obtain ⟨k, hk, rfl, hbx⟩ := hrel
              have hb0x : Below w.heap.size w wr := hb.trans (hbx.mono hb.size)
              by_cases hlt : k < l1.length
              · obtain ⟨b, off, rfl, hbl, hc0⟩ := w1 k hlt
                have hcW : wr.cell? ⟨b, off + k, none⟩ = some (.int .u8 (l1.getD k 0)) := (hb0x.cell (p := ⟨b, off + k, none⟩) hbl).trans hc0
                obtain ⟨x, hx⟩ : ∃ x, l1.getD k 0 = x := ⟨_, rfl⟩
                rw [hx] at hcW
                have K18 : Hid (_) := kind_at (hS.later hbx) (i := k) (by simp; omega) (by rw [getD_left l1 l2 k hlt]; exact hx) hcW (by have := hb0x.size; omega)
                have K9 : Hid (_) := value_at (B := w.heap.size) (i := k) hcW (by have := hb0x.size; omega)
                have hkl : (k : Int) < (l1.length : Int) := by omega
                have hwk : IntKind.u32.wrap (k : Int) = (k : Int) := IntWalk.u32_in _ ⟨by omega, by omega⟩
                clear hx hc0 hcnt hS
                go_wp2
                go_region_with (first | (go_at_call 9; refine (K9.out _ ?_).mono ?_; exact (Below.refl _ _).drew; rintro e X1 ⟨rfl, hX1, x1⟩) | (go_at_call 18; refine (K18.out _ ?_).mono ?_; assumption; rintro e X2 ⟨rfl, hX2, x2⟩))
                all_goals
                  have B2 := hbx.trans (hX2.mono hbx.size)
                  clear K18 K9 hX1 x1 x2 hX2 hcW
                  go_wp2
                  go_roundw
                  case rel => exact ⟨k + 1, by omega, by go_num, B2⟩
                  case measure => simp [intOf]; omega
              · go_wp2
                go_ret
                exact ⟨rfl, hb0x⟩
end Go.Proofs.Qxb6603622a

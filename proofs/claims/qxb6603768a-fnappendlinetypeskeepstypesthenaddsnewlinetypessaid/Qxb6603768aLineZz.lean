import Derived.Test.Qxb6603768aLineApp
namespace Go.Proofs.Qxb6603768a
open Go.ChangeShapes Go.WideShapes Go.ChangeAt Go.RowKit
open LinePlain

theorem chain_step {wr : World} {q : Option Addr} {ts : List ByteArray} {t id : ByteArray} (h : Chain wr q ts) :
    Chain (wr.alloc (.cells #[.string t, .string id, .pointer q, .map none] 42)) (some ⟨wr.heap.size, 0, none⟩) (t :: ts) :=
  ⟨wr.heap.size, id, q, rfl, by simp, by simp, by simp, by simp, Chain.below ((Below.refl wr.heap.size wr).alloc (Nat.le_refl _) _) ts q (fun b hb => hb) h⟩

set_option maxHeartbeats 800000 in
set_option maxRecDepth 1000000 in
theorem zzapp_any (a : Option Addr) (l : List ByteArray) (t id : ByteArray) (aT : Option Addr) (cT : Nat) (anc : List ByteArray) (aI : Option Addr) (cI : Nat) (ids : List ByteArray) (w : World)
    (hs : StrsAt w a l) (hT : StrsAt w aT anc) (hI : StrsAt w aI ids) (hlen : ids.length = anc.length) (h1 : l.length ≤ 4096) (h2 : anc.length ≤ 4096) :
    Calls Try.prog 15 #[.slice a l.length l.length, .string t, .string id, .slice aT anc.length cT, .slice aI ids.length cI] w fun e w' =>
      ∃ a' c', e = .returned (.slice a' ((t :: anc).foldl addB l).length c') ∧ StrsAt w' a' ((t :: anc).foldl addB l) ∧ Below w.heap.size w w' := by
  have HL : Hid (ids.length = anc.length) := hlen
  clear hlen
  go_enter Try.func15, Try.ntmps15
  go_wp2
  go_loopw [11, 12] (fun p k wr => ∃ (j : Nat) (q : Option Addr), j ≤ anc.length ∧ k = .int .i64 ((j : Int) - 1) ∧ p = .pointer q ∧ Chain wr q (anc.drop j) ∧ Below w.heap.size w wr) (fun _ k _ => (intOf k + 1).toNat)
  case atStart => exact ⟨anc.length, none, Nat.le_refl _, rfl, rfl, by rw [List.drop_length]; rfl, Below.refl _ _⟩
  case round =>
    obtain ⟨j, q, hj, rfl, rfl, hch, hb⟩ := hrel
    have hbs := hb.size
    by_cases hlt : 1 ≤ j
    · obtain ⟨k, rfl⟩ : ∃ k, j = k + 1 := ⟨j - 1, by omega⟩
      have e1 : ((k + 1 : Nat) : Int) - 1 = (k : Int) := by omega
      rw [e1]
      have hkI : k < ids.length := by rw [HL.out]; omega
      obtain ⟨bT, oT, rfl, _, cT0⟩ := (hT.later hb) k (by omega)
      obtain ⟨bI, oI, rfl, _, cI0⟩ := (hI.later hb) k hkI
      obtain ⟨s, hsk⟩ : ∃ s, anc.getD k ByteArray.empty = s := ⟨_, rfl⟩
      obtain ⟨u, huk⟩ : ∃ u, ids.getD k ByteArray.empty = u := ⟨_, rfl⟩
      rw [hsk] at cT0
      rw [huk] at cI0
      have hdrop : anc.drop k = s :: anc.drop (k + 1) := by
        rw [List.drop_eq_getElem_cons (by omega), ← hsk, List.getD_eq_getElem?_getD, List.getElem?_eq_getElem (by omega)]; rfl
      have R : Hid (_) := chain_step (t := s) (id := u) hch
      have HD : Hid (_) := hdrop
      clear hsk huk hdrop hch hs hT hI e1
      go_wp2
      go_region
      all_goals go_wp2
      all_goals refine ⟨⟨k, _, by omega, rfl, rfl, ?_, (hb.alloc hbs _).drew⟩, by simp [intOf]⟩
      all_goals rw [HD.out]
      all_goals exact Chain.below (B := (wr.alloc (.cells #[.string s, .string u, .pointer q, .map none] 42)).heap.size) (Below.refl _ _).drew _ _ (fun b hb => hb) R.out
    · obtain rfl : j = 0 := by omega
      rw [List.drop_zero] at hch
      go_wp2_with fail
      refine (append_any a l t id q anc wr (hs.later hb) hch (by omega)).mono ?_
      rintro e w2 ⟨a2, c2, rfl, hs2, hb2⟩
      go_wp2
      go_ret
      exact ⟨a2, c2, rfl, hs2, hb.trans (hb2.mono hbs)⟩
end Go.Proofs.Qxb6603768a

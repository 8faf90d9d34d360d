import Derived.Test.Qxb6603768aLineZz
import Derived.Test.Qxb6603768aBytes12
import Derived.Deep.QuietTactic
import Derived.BigQuiet
namespace Go.Proofs.Qxb6603768a
open Go.ChangeShapes Go.WideShapes Go.ChangeAt Go.RowKit
open LinePlain

/-- What the answer F holds: l, then N. -/
structure Ans (l Ln F : List ByteArray) (N : List K) : Prop where
  len : F.length = l.length + N.length
  old : ∀ i s u, i < l.length → F.getD i ByteArray.empty = s → l.getD i ByteArray.empty = u → s.toList = u.toList
  all : ∀ i s, i < Ln.length → Ln.getD i ByteArray.empty = s → 0 ≤ kIdx (keys F) s.toList
  new : ∀ i s, l.length ≤ i → i < F.length → F.getD i ByteArray.empty = s → N[i - l.length]? = some s.toList
  added : Added (keys l) (keys Ln) N
  bound : F.length ≤ l.length + Ln.length

theorem fold_len : ∀ (L T : List ByteArray), (L.foldl addB T).length ≤ T.length + L.length
  | [], _ => by simp
  | x :: L, T => by
    have h1 := fold_len L (addB T x)
    have h2 := addB_len T x
    rw [List.foldl_cons, List.length_cons]
    omega

theorem ans_of (l Ln : List ByteArray) : ∃ N, Ans l Ln (Ln.foldl addB l) N := by
  obtain ⟨N, h, e⟩ := line_law (keys l) (keys Ln)
  have ek : keys (Ln.foldl addB l) = keys l ++ N := by rw [keys_fold, e]
  have el : (Ln.foldl addB l).length = l.length + N.length := by rw [← keys_len, ek, List.length_append, keys_len]
  refine ⟨N, el, fun i s u hi hs hu => ?_, fun i s hi hs => ?_, fun i s h1 h2 hs => ?_, h, fold_len Ln l⟩
  · have e1 := keys_get (by omega) hs
    rw [ek, List.getElem?_append_left (by rw [keys_len]; exact hi), keys_get hi hu] at e1
    simpa using e1.symm
  · have hm : s.toList ∈ keys Ln := List.mem_of_getElem? (keys_get hi hs)
    exact (kIdx_mem (by rw [ek]; exact h.out _ hm)).1
  · have e1 := keys_get h2 hs
    rw [ek, List.getElem?_append_right (by rw [keys_len]; exact h1), keys_len] at e1
    exact e1

/-- The cells of the line, as far as k. -/
def lineCells (t : ByteArray) (anc : List ByteArray) (k : Nat) : List Value := (t :: anc.take k).map Value.string
theorem map_snoc (t : ByteArray) (anc : List ByteArray) (k : Nat) (s : ByteArray) (hk : k < anc.length) (hs : anc.getD k ByteArray.empty = s) :
    lineCells t anc k ++ [.string s] = lineCells t anc (k + 1) := by
  have e : anc.take (k + 1) = anc.take k ++ [s] := by
    rw [List.take_succ_eq_append_getElem hk, ← hs, List.getD_eq_getElem?_getD, List.getElem?_eq_getElem hk]; rfl
  unfold lineCells
  rw [e]; simp

/-- A counter up to n. -/
def CountTo (n : Nat) (i : Value) : Prop := ∃ k : Nat, k ≤ n ∧ i = .int .i64 k

set_option maxHeartbeats 3200000 in
set_option maxRecDepth 1000000 in
theorem line_walk (a : Option Addr) (cap : Nat) (l : List ByteArray) (t id : ByteArray) (aT : Option Addr) (cT : Nat) (anc : List ByteArray) (aI : Option Addr) (cI : Nat) (ids : List ByteArray) (w : World)
    (hs : StrsAt w a l) (hT : StrsAt w aT anc) (hI : StrsAt w aI ids) (hl : l.length ≤ 9223372036854775807) (hlT : anc.length ≤ 9223372036854775807) (hlI : ids.length ≤ 9223372036854775807)
    (ht : t.size ≤ 9223372036854775807) (hid : id.size ≤ 9223372036854775807) :
    Calls Try.prog 5 #[.slice a l.length cap, .string t, .string id, .slice aT anc.length cT, .slice aI ids.length cI] w fun e w' => e = .returned (.bool true) ∧ Below w.heap.size w w' := by
  obtain ⟨i0, hi, hz0, hz1, hz2⟩ := info_parts Try.info9
  go_enter Try.func5, Try.ntmps5
  go_wp2_with fail
  refine (bytes12 a cap l t id aT cT anc aI cI ids w hs hT hI hl hlT hlI ht hid).mono ?_
  rintro e w' ⟨⟨r, rfl⟩, hw⟩
  obtain rfl := hw.symm
  cases r with
  | false =>
    go_wp2
    go_ret
    exact ⟨rfl, Below.refl _ _⟩
  | true =>
    by_cases h1 : 4096 < l.length
    · go_wp2
      go_ret
      exact ⟨rfl, Below.refl _ _⟩
    by_cases h2 : 4096 < anc.length
    · go_wp2
      go_ret
      exact ⟨rfl, Below.refl _ _⟩
    by_cases h3 : 4096 < ids.length
    · go_wp2
      go_ret
      exact ⟨rfl, Below.refl _ _⟩
    by_cases h4 : 1048576 < t.size
    · go_wp2
      go_ret
      exact ⟨rfl, Below.refl _ _⟩
    by_cases h5 : 1048576 < id.size
    · go_wp2
      go_ret
      exact ⟨rfl, Below.refl _ _⟩
    go_wp2_with fail
    refine (spend_any a cap l _ _ hs hl (by omega)).mono ?_
    rintro e w' ⟨r1, rfl, hr1, hw⟩
    obtain rfl := hw.symm
    go_wp2_with fail
    refine (spend_any aT cT anc _ _ hT hlT (by omega)).mono ?_
    rintro e w' ⟨r2, rfl, hr2, hw⟩
    obtain rfl := hw.symm
    go_wp2_with fail
    refine (spend_any aI cI ids _ _ hI hlI (by omega)).mono ?_
    rintro e w' ⟨r3, rfl, hr3, hw⟩
    obtain rfl := hw.symm
    by_cases h6 : r3 < 0
    · go_wp2
      go_ret
      exact ⟨rfl, Below.refl _ _⟩
    by_cases h7 : ids.length = anc.length
    case neg =>
      go_wp2
      go_ret
      exact ⟨rfl, Below.refl _ _⟩
    have HL : Hid (ids.length = anc.length) := h7
    have hne : ((ids.length : Int) != (anc.length : Int)) = false := by rw [h7]; simp
    clear h7
    go_wp2_with fail
    refine (clone_full a cap l w hs (by omega)).mono ?_
    rintro e w1 ⟨a1, rfl, hs1, hb1⟩
    go_wp2_with fail
    refine (clone_full aT cT anc w1 (hT.later hb1) (by omega)).mono ?_
    rintro e w2 ⟨aT2, rfl, hT2, hb2⟩
    have hb12 : Below w.heap.size w w2 := hb1.trans (hb2.mono hb1.size)
    go_wp2_with fail
    refine (clone_full aI cI ids w2 (hI.later hb12) (by omega)).mono ?_
    rintro e w3 ⟨aI3, rfl, hI3, hb3⟩
    have hs3 := (hs1.later hb2).later hb3
    have hT3 := hT2.later hb3
    have hb13 : Below w.heap.size w w3 := hb12.trans (hb3.mono hb12.size)
    clear hs hT hI hs1 hT2 hb1 hb2 hb3 hb12
    go_wp2_with fail
    refine (zzapp_any a1 l t id aT2 anc.length anc aI3 ids.length ids w3 hs3 hT3 hI3 HL.out (by omega) (by omega)).mono ?_
    rintro e w4 ⟨aO, cO, rfl, hO, hb4⟩
    obtain ⟨N, hN⟩ := ans_of l (t :: anc)
    generalize (t :: anc).foldl addB l = F at hO hN ⊢
    have hs4 := hs3.later hb4
    have hT4 := hT3.later hb4
    have hb14 : Below w.heap.size w w4 := hb13.trans (hb4.mono hb13.size)
    have hFl := hN.len
    have hFle : F.length ≤ 10000 := by have := hN.bound; simp at this; omega
    have HF : Hid (F.length = l.length + N.length) := hFl
    clear hFl hs3 hT3 hI3 hb4 hb13 hne HL
    go_wp2_with (at_make; refine wpList_make_own _ rfl _ _ 25 rfl w4.heap.size 9 i0 (.string ByteArray.empty) 1 Try.underlying25 hi hz0 hz1 _ _ _ (1 + anc.length) rfl rfl (by omega) ?b2 ?b3 (Nat.le_refl _) ?_)
    case b2 => rw [hz2]; omega
    case b3 => unfold maxLen; omega
    intro w5 hown5 hg5
    have hb5 : Below w4.heap.size w4 w5 := (Below.refl _ _).grown hg5 (Nat.le_refl _) (fun k h => by simp at h)
    have hb5s := hb5.size
    have hone5 : ∀ (j : Nat) (u : Value), [Value.string t][j]? = some u → (w5.alloc (.cells #[.string t] 9)).cell? ((⟨w5.heap.size, 0, none⟩ : Addr).add j) = some u := by
      intro j u hj
      match j, hj with
      | 0, hj => simp at hj; subst hj; simp [Addr.add]
    go_wp2_with (at_builtin; refine wpList_append_own _ rfl (.tmp 99) (.tmp 101) 25 rfl w4.heap.size 9 i0 (.string ByteArray.empty) 1 16 Try.underlying25 hi hz0 hz1 hz2 rfl (by decide) _ 0 [] rfl (hown5.alloc _) ⟨w5.heap.size, 0, none⟩ 1 1 [.string t] rfl rfl hone5 ?q4 ?q6 ?q7 ?q8 ?_)
    case q4 => intro u hu; simp at hu; subst hu; rfl
    case q6 => unfold maxLen; omega
    case q7 => omega
    case q8 => simp; omega
    intro v6 w6 hown6 hg6 _
    have hb6 : Below w4.heap.size w4 w6 := (hb5.alloc hb5s _).grown hg6 (by simp; omega) (fun k h => by simp [Value.ownBlock] at h; omega)
    have hown6' : w6.ownsRow w4.heap.size 9 1 v6 (0 + 1) (lineCells t anc 0) := by simpa [lineCells] using hown6
    clear hown5 hg5 hb5 hb5s hone5 hown6 hg6
    go_wp2
    go_loopw [13, 14] (fun v i wr => ∃ k : Nat, k ≤ anc.length ∧ i = .int .i64 k ∧ wr.ownsRow w4.heap.size 9 1 v (k + 1) (lineCells t anc k) ∧ Below w4.heap.size w4 wr) (fun _ i _ => anc.length - (intOf i).toNat)
    case atStart => exact ⟨0, Nat.zero_le _, rfl, hown6', hb6⟩
    case round =>
      obtain ⟨k, hk, rfl, hown, hb⟩ := hrel
      have hbs := hb.size
      by_cases hlt : k < anc.length
      · obtain ⟨b, off, rfl, _, hc⟩ := (hT4.later hb) k hlt
        obtain ⟨s, hsk⟩ : ∃ s, anc.getD k ByteArray.empty = s := ⟨_, rfl⟩
        rw [hsk] at hc
        have MS : Hid (_ = _) := map_snoc t anc k s hlt hsk
        have hone : ∀ (j : Nat) (u : Value), [Value.string s][j]? = some u → (wr.alloc (.cells #[.string s] 9)).cell? ((⟨wr.heap.size, 0, none⟩ : Addr).add j) = some u := by
          intro j u hj
          match j, hj with
          | 0, hj => simp at hj; subst hj; simp [Addr.add]
        clear hsk hs4 hT4 hO hown6' hb6 hN HF
        go_wp2_with (at_builtin; refine wpList_append_own _ rfl (.tmp 109) (.tmp 114) 25 rfl w4.heap.size 9 i0 (.string ByteArray.empty) 1 16 Try.underlying25 hi hz0 hz1 hz2 rfl (by decide) _ (k + 1) (lineCells t anc k) rfl (hown.alloc _) ⟨wr.heap.size, 0, none⟩ 1 1 [.string s] rfl rfl hone ?r4 ?r6 ?r7 ?r8 ?_)
        case r4 => intro u hu; simp at hu; subst hu; rfl
        case r6 => unfold maxLen; omega
        case r7 => omega
        case r8 => simp; omega
        intro v7 w7 hown7 hg7 _
        have hb7 : Below w4.heap.size w4 w7 := (hb.alloc hbs _).grown hg7 (by simp; omega) (fun k' h => (hown.lt k' h).1)
        have hown7' : w7.ownsRow w4.heap.size 9 1 v7 (k + 1 + 1) (lineCells t anc (k + 1)) := by rw [← MS.out]; exact hown7
        clear hown7 hg7 hown hone MS
        go_wp2
        go_roundw
        case rel => exact ⟨k + 1, by omega, by go_num, hown7', hb7⟩
        case measure => simp [intOf]; omega
      · obtain rfl : k = anc.length := by omega
        obtain ⟨aL, cL, hv, hL⟩ := strs_own (T := t :: anc) (by simpa [lineCells] using hown)
        subst hv
        obtain ⟨w7, e7⟩ : ∃ x, x = wr := ⟨_, rfl⟩
        subst e7
        generalize hLn : t :: anc = Ln at hN hL ⊢
        have hLl : Ln.length ≤ 5000 := by rw [← hLn]; simp; omega
        have hs6 := hs4.later hb
        have hO6 := hO.later hb
        have hb16 : Below w.heap.size w w7 := hb14.trans (hb.mono hb14.size)
        clear hown hb hbs hs4 hT4 hO hown6' hb6 hb14 hLn
        have hge : l.length ≤ F.length := by rw [HF.out]; omega
        have hgd : decide (F.length < l.length) = false := by simp; omega
        go_wp2
        go_loopw [16] (fun i wx => ∃ k : Nat, k ≤ l.length ∧ i = .int .i64 k ∧ Below w7.heap.size w7 wx) (fun i _ => l.length - (intOf i).toNat)
        case atStart => exact ⟨0, Nat.zero_le _, rfl, Below.refl _ _⟩
        case round =>
          obtain ⟨k, hk, rfl, hb⟩ := hrel
          by_cases hlt : k < l.length
          · obtain ⟨b1, o1, rfl, _, e1⟩ := (hs6.later hb) k hlt
            obtain ⟨b2, o2, rfl, _, e2⟩ := (hO6.later hb) k (by omega)
            obtain ⟨s, hsk⟩ : ∃ s, l.getD k ByteArray.empty = s := ⟨_, rfl⟩
            obtain ⟨u, huk⟩ : ∃ u, F.getD k ByteArray.empty = u := ⟨_, rfl⟩
            rw [hsk] at e1
            rw [huk] at e2
            have hsu : (u.toList == s.toList) = true := by rw [hN.old k u s hlt huk hsk]; simp
            have hlt1 : (k : Int) < (l.length : Int) := by omega
            have hlt2 : (k : Int) < (F.length : Int) := by omega
            clear hsk huk hs6 hO6 hL hN HF
            go_wp2
            go_quiet (fail)
            go_wp2
            go_roundw
            case rel => exact ⟨k + 1, by omega, by go_num, hb.trans ⟨rfl, rfl, rfl, Nat.le_refl _, fun _ _ => rfl⟩⟩
            case measure => simp [intOf]; omega
          · obtain ⟨w8, e8⟩ : ∃ x, x = wr := ⟨_, rfl⟩
            subst e8
            have hs8 := hs6.later hb
            have hO8 := hO6.later hb
            have hL8 := hL.later hb
            have hb18 : Below w.heap.size w w8 := hb16.trans (hb.mono hb16.size)
            clear hs6 hO6 hL hb hb16
            go_wp2
            go_loop [17] (fun i => CountTo Ln.length i) (fun i => Ln.length - (intOf i).toNat)
            case atStart => exact ⟨0, Nat.zero_le _, rfl⟩
            case round =>
              obtain ⟨k, hk, rfl⟩ := hrel
              by_cases hlt : k < Ln.length
              · obtain ⟨b1, o1, rfl, _, e1⟩ := hL8 k hlt
                obtain ⟨s, hsk⟩ : ∃ s, Ln.getD k ByteArray.empty = s := ⟨_, rfl⟩
                rw [hsk] at e1
                have hall := hN.all k s hlt hsk
                clear hsk hN HF
                go_wp2_with fail
                refine (index_any aO cO F s w8 hO8 (by omega)).mono ?_
                rintro e w' ⟨rfl, hw⟩
                obtain rfl := hw.symm
                go_wp2
                go_round
                case rel => exact ⟨k + 1, by omega, by go_num⟩
                case measure => simp [intOf]; omega
              · go_wp2
                go_loop [18, 19] (fun p i => ∃ (k : Nat) (pv : Int), l.length ≤ k ∧ k ≤ F.length ∧ i = .int .i64 k ∧ p = .int .i64 pv ∧ ∀ x, N[k - l.length]? = some x → pv < kIdx (keys Ln) x) (fun _ i => F.length - (intOf i).toNat)
                case atStart => exact ⟨l.length, -1, Nat.le_refl _, hge, rfl, rfl, fun x hx => by have := (new_at hN.added hx).1; omega⟩
                case round =>
                  obtain ⟨k, pv, hk1, hk2, rfl, rfl, hpv⟩ := hrel
                  by_cases hlt : k < F.length
                  · obtain ⟨b1, o1, rfl, _, e1⟩ := hO8 k hlt
                    obtain ⟨s, hsk⟩ : ∃ s, F.getD k ByteArray.empty = s := ⟨_, rfl⟩
                    rw [hsk] at e1
                    have hNk := hN.new k s hk1 hlt hsk
                    have A1 := hpv _ hNk
                    have A2 := (new_at hN.added hNk).2.2
                    have A3 : Hid (∀ x, N[k + 1 - l.length]? = some x → kIdx (keys Ln) s.toList < kIdx (keys Ln) x) := fun x hx => new_next hN.added hNk (by rw [show k - l.length + 1 = k + 1 - l.length by omega]; exact hx)
                    clear hsk hNk hpv hN HF
                    go_wp2_with fail
                    refine (index_any aL cL Ln s w8 hL8 (by omega)).mono ?_
                    rintro e w' ⟨rfl, hw⟩
                    obtain rfl := hw.symm
                    go_wp2_with fail
                    refine (index_any a1 l.length l s w8 hs8 (by omega)).mono ?_
                    rintro e w' ⟨rfl, hw⟩
                    obtain rfl := hw.symm
                    go_wp2
                    go_round
                    case rel => exact ⟨k + 1, _, by omega, by omega, by go_num, rfl, A3.out⟩
                    case measure => simp [intOf]; omega
                  · go_wp2
                    go_ret
                    exact ⟨rfl, hb18⟩
end Go.Proofs.Qxb6603768a

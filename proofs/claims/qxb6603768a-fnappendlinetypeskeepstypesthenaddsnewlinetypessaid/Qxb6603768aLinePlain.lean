namespace Go.Proofs.Qxb6603768a.LinePlain

/-- A string, as its bytes. -/
abbrev K := List UInt8

def addNew (T : List K) (x : K) : List K := if x ∈ T then T else T ++ [x]

/-- What the walk along the line P has added to T: N. -/
structure Added (T P N : List K) : Prop where
  out : ∀ x ∈ P, x ∈ T ++ N
  fromLine : ∀ x ∈ N, x ∈ P
  fresh : ∀ x ∈ N, x ∉ T
  order : N.Pairwise fun a b => P.idxOf a < P.idxOf b

theorem added_nil (T : List K) : Added T [] [] := ⟨fun x h => by simp at h, fun x h => by simp at h, fun x h => by simp at h, List.Pairwise.nil⟩

theorem added_step {T P N : List K} (h : Added T P N) (x : K) : ∃ N', Added T (P ++ [x]) N' ∧ addNew (T ++ N) x = T ++ N' := by
  have hpos : ∀ a, a ∈ P → (P ++ [x]).idxOf a = P.idxOf a := fun a ha => by rw [List.idxOf_append, if_pos ha]
  by_cases hx : x ∈ T ++ N
  · refine ⟨N, ⟨fun y hy => ?_, fun y hy => List.mem_append_left _ (h.fromLine y hy), h.fresh, ?_⟩, by rw [addNew, if_pos hx]⟩
    · rcases List.mem_append.1 hy with hy | hy
      · exact h.out y hy
      · obtain rfl : y = x := by simpa using hy
        exact hx
    · exact h.order.imp_of_mem fun {a b} ha hb hab => by rw [hpos a (h.fromLine a ha), hpos b (h.fromLine b hb)]; exact hab
  · have hxP : x ∉ P := fun hp => hx (h.out x hp)
    refine ⟨N ++ [x], ⟨fun y hy => ?_, fun y hy => ?_, fun y hy => ?_, ?_⟩, by rw [addNew, if_neg hx, List.append_assoc]⟩
    · rw [← List.append_assoc]
      rcases List.mem_append.1 hy with hy | hy
      · exact List.mem_append_left _ (h.out y hy)
      · exact List.mem_append_right _ hy
    · rcases List.mem_append.1 hy with hy | hy
      · exact List.mem_append_left _ (h.fromLine y hy)
      · exact List.mem_append_right _ hy
    · rcases List.mem_append.1 hy with hy | hy
      · exact h.fresh y hy
      · obtain rfl : y = x := by simpa using hy
        exact fun ht => hx (List.mem_append_left _ ht)
    · rw [List.pairwise_append]
      refine ⟨h.order.imp_of_mem fun {a b} ha hb hab => by rw [hpos a (h.fromLine a ha), hpos b (h.fromLine b hb)]; exact hab, by simp, fun a ha b hb => ?_⟩
      obtain rfl : b = x := by simpa using hb
      rw [hpos a (h.fromLine a ha), List.idxOf_append, if_neg hxP]
      have := List.idxOf_lt_length_of_mem (h.fromLine a ha)
      omega

theorem added_fold {T : List K} : ∀ (L P N : List K), Added T P N → ∃ N', Added T (P ++ L) N' ∧ L.foldl addNew (T ++ N) = T ++ N'
  | [], P, N, h => ⟨N, by simpa using h, rfl⟩
  | x :: L, P, N, h => by
    obtain ⟨N1, h1, e1⟩ := added_step h x
    obtain ⟨N2, h2, e2⟩ := added_fold L (P ++ [x]) N1 h1
    refine ⟨N2, by simpa using h2, ?_⟩
    rw [List.foldl_cons, e1, e2]

theorem line_law (T L : List K) : ∃ N, Added T L N ∧ L.foldl addNew T = T ++ N := by
  obtain ⟨N, h, e⟩ := added_fold L [] [] (added_nil T)
  exact ⟨N, by simpa using h, by simpa using e⟩

/-- alIndex, on bytes: the first place of x in l, or -1. -/
def kIdx (l : List K) (x : K) : Int := if x ∈ l then (l.idxOf x : Int) else -1
theorem kIdx_mem {l : List K} {x : K} (h : x ∈ l) : 0 ≤ kIdx l x ∧ kIdx l x < l.length := by
  rw [kIdx, if_pos h]; have := List.idxOf_lt_length_of_mem h; omega
theorem kIdx_not {l : List K} {x : K} (h : x ∉ l) : kIdx l x = -1 := by rw [kIdx, if_neg h]

/-- What the law asks of the k-th new type, k counted from 0. -/
theorem new_at {T L N : List K} (h : Added T L N) {k : Nat} {x : K} (hk : N[k]? = some x) : 0 ≤ kIdx L x ∧ kIdx L x < L.length ∧ kIdx T x = -1 := by
  have hm : x ∈ N := List.mem_of_getElem? hk
  exact ⟨(kIdx_mem (h.fromLine x hm)).1, (kIdx_mem (h.fromLine x hm)).2, kIdx_not (h.fresh x hm)⟩
theorem new_next {T L N : List K} (h : Added T L N) {k : Nat} {x y : K} (hk : N[k]? = some x) (hk' : N[k + 1]? = some y) : kIdx L x < kIdx L y := by
  have hx : x ∈ N := List.mem_of_getElem? hk
  have hy : y ∈ N := List.mem_of_getElem? hk'
  obtain ⟨i1, e1⟩ := List.getElem?_eq_some_iff.1 hk
  obtain ⟨i2, e2⟩ := List.getElem?_eq_some_iff.1 hk'
  have := List.pairwise_iff_getElem.1 h.order k (k + 1) i1 i2 (by omega)
  rw [e1, e2] at this
  rw [kIdx, kIdx, if_pos (h.fromLine x hx), if_pos (h.fromLine y hy)]
  omega
end Go.Proofs.Qxb6603768a.LinePlain

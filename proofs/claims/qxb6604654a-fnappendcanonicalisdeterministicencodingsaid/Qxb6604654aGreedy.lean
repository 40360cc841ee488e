/-
  Plain: the greedy matching of two lists finds out whether they are alike but for their order.
-/
import Init.Data.List.Lemmas
import Init.Data.List.Perm
namespace Go.Proofs.Qxb6604654a

variable {γ : Type}

/-- The elements that are not used yet, from index j on. -/
def left (u : Nat → Bool) : Nat → List γ → List γ
  | _, [] => []
  | j, q :: qs => if u j = true then left u (j + 1) qs else q :: left u (j + 1) qs

theorem left_none {u : Nat → Bool} : ∀ (qs : List γ) (j : Nat), (∀ i, i < qs.length → u (j + i) = false) → left u j qs = qs
  | [], _, _ => rfl
  | q :: qs, j, h => by
    have h0 := h 0 (by simp)
    rw [Nat.add_zero] at h0
    rw [left, if_neg (by rw [h0]; simp), left_none qs (j + 1) fun i hi => by rw [Nat.add_right_comm, Nat.add_assoc]; exact h (i + 1) (by rw [List.length_cons]; omega)]
theorem left_congr {u v : Nat → Bool} : ∀ (qs : List γ) (j : Nat), (∀ i, j ≤ i → i < j + qs.length → u i = v i) → left u j qs = left v j qs
  | [], _, _ => rfl
  | q :: qs, j, h => by
    rw [left, left, h j (Nat.le_refl _) (by rw [List.length_cons]; omega), left_congr qs (j + 1) fun i h1 h2 => h i (by omega) (by rw [List.length_cons]; omega)]
theorem left_mem {u : Nat → Bool} {c : γ} : ∀ (qs : List γ) (j : Nat), c ∈ left u j qs → ∃ i, i < qs.length ∧ u (j + i) = false ∧ qs[i]? = some c
  | [], _, h => by simp [left] at h
  | q :: qs, j, h => by
    rw [left] at h
    have go : c ∈ left u (j + 1) qs → ∃ i, i < (q :: qs).length ∧ u (j + i) = false ∧ (q :: qs)[i]? = some c := fun h => by
      obtain ⟨i, h1, h2, h3⟩ := left_mem qs (j + 1) h
      exact ⟨i + 1, by rw [List.length_cons]; omega, by rw [← Nat.add_assoc, Nat.add_right_comm]; exact h2, by rw [List.getElem?_cons_succ]; exact h3⟩
    cases hu : u j with
    | true => rw [if_pos hu] at h; exact go h
    | false =>
      rw [if_neg (by rw [hu]; simp)] at h
      rcases List.mem_cons.1 h with rfl | h
      · exact ⟨0, by simp, hu, rfl⟩
      · exact go h
/-- One more is used. -/
def use (u : Nat → Bool) (k : Nat) : Nat → Bool := fun i => if i = k then true else u i
theorem left_use {u : Nat → Bool} {c : γ} : ∀ (qs : List γ) (j i : Nat), qs[i]? = some c → u (j + i) = false → (left u j qs).Perm (c :: left (use u (j + i)) j qs)
  | [], _, _, h, _ => by simp at h
  | q :: qs, j, 0, h, hu => by
    rw [List.getElem?_cons_zero] at h
    obtain rfl := Option.some.inj h
    rw [Nat.add_zero] at hu ⊢
    have e : left (use u j) (j + 1) qs = left u (j + 1) qs := left_congr qs (j + 1) fun i h1 _ => by unfold use; rw [if_neg (by omega)]
    have hj : use u j j = true := by unfold use; rw [if_pos rfl]
    rw [left, if_neg (by rw [hu]; simp), left, if_pos hj, e]
  | q :: qs, j, i + 1, h, hu => by
    rw [List.getElem?_cons_succ] at h
    have ei : j + (i + 1) = j + 1 + i := by omega
    rw [ei] at hu ⊢
    have ih := left_use qs (j + 1) i h hu
    have hj : use u (j + 1 + i) j = u j := by unfold use; rw [if_neg (by omega)]
    rw [left, left, hj]
    split
    · exact ih
    · exact (ih.cons q).trans (List.Perm.swap c q _)

/-- The first i elements of P have found their fellows in Q, those that u marks. -/
def Met (P Q : List γ) (i : Nat) (u : Nat → Bool) : Prop := (P.take i ++ left u 0 Q).Perm Q

theorem Met.start {P Q : List γ} {u : Nat → Bool} (h : ∀ i, i < Q.length → u i = false) : Met P Q 0 u := by
  unfold Met
  rw [left_none Q 0 fun i hi => by rw [Nat.zero_add]; exact h i hi]
  exact List.Perm.refl _
theorem Met.congr {P Q : List γ} {i : Nat} {u v : Nat → Bool} (h : Met P Q i u) (e : ∀ j, j < Q.length → u j = v j) : Met P Q i v := by
  unfold Met at h ⊢
  rw [← left_congr Q 0 fun j _ h2 => e j (by omega)]
  exact h
theorem Met.found {P Q : List γ} {i j : Nat} {u : Nat → Bool} {c : γ} (h : Met P Q i u) (hp : P[i]? = some c) (hq : Q[j]? = some c) (hu : u j = false) : Met P Q (i + 1) (use u j) := by
  unfold Met at h ⊢
  have h1 := left_use (u := u) Q 0 j hq (by rw [Nat.zero_add]; exact hu)
  rw [Nat.zero_add] at h1
  have e : P.take (i + 1) = P.take i ++ [c] := by
    rw [List.take_add_one, hp]
    rfl
  rw [e, List.append_assoc]
  exact ((h1.symm).append_left (P.take i)).trans h
theorem Met.fail {P Q : List γ} {i : Nat} {u : Nat → Bool} {c : γ} (h : Met P Q i u) (hp : P[i]? = some c) (hn : ∀ j, j < Q.length → u j = true ∨ Q[j]? ≠ some c) : ¬ P.Perm Q := by
  intro hP
  unfold Met at h
  have h1 : (P.take i ++ left u 0 Q).Perm (P.take i ++ P.drop i) := by
    rw [List.take_append_drop]
    exact h.trans hP.symm
  have h2 := (List.perm_append_left_iff _).1 h1
  have hc : c ∈ P.drop i := by
    have hi : i < P.length := (List.getElem?_eq_some_iff.1 hp).1
    refine List.mem_of_getElem? (i := 0) ?_
    rw [List.getElem?_drop, Nat.add_zero]
    exact hp
  obtain ⟨j, hj, hu, hq⟩ := left_mem Q 0 (h2.mem_iff.2 hc)
  rw [Nat.zero_add] at hu
  rcases hn j hj with h3 | h3
  · rw [hu] at h3
    simp at h3
  · exact h3 hq
theorem Met.done {P Q : List γ} {i : Nat} {u : Nat → Bool} (h : Met P Q i u) (hi : P.length ≤ i) (hl : P.length = Q.length) : P.Perm Q := by
  unfold Met at h
  rw [List.take_of_length_le hi] at h
  have := h.length_eq
  rw [List.length_append] at this
  have e : left u 0 Q = [] := List.eq_nil_of_length_eq_zero (by omega)
  rw [e, List.append_nil] at h
  exact h

end Go.Proofs.Qxb6604654a

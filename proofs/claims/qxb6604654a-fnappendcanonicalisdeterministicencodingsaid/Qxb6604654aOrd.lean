/-
  Plain: the order of byte strings.
-/
import Derived.Lib.Bytealg
namespace Go.Proofs.Qxb6604654a
open Go.Lib (compareBytes)

theorem cmpB_self : ∀ a : List UInt8, compareBytes a a = 0
  | [] => rfl
  | x :: a => by
    have : ¬ x < x := by rw [UInt8.lt_iff_toNat_lt]; omega
    rw [compareBytes, if_neg this, if_neg this, cmpB_self a]
theorem cmpB_swap : ∀ a b : List UInt8, compareBytes b a = - compareBytes a b
  | [], [] => rfl
  | [], _ :: _ => rfl
  | _ :: _, [] => rfl
  | x :: a, y :: b => by
    rw [compareBytes, compareBytes]
    by_cases h1 : x < y
    · have h2 : ¬ y < x := by rw [UInt8.lt_iff_toNat_lt] at h1 ⊢; omega
      rw [if_neg h2, if_pos h1, if_pos h1]
      rfl
    · by_cases h2 : y < x
      · rw [if_pos h2, if_neg h1, if_pos h2]
      · rw [if_neg h2, if_neg h1, if_neg h1, if_neg h2]
        exact cmpB_swap a b
theorem cmpB_zero : ∀ a b : List UInt8, compareBytes a b = 0 → a = b
  | [], [], _ => rfl
  | [], _ :: _, h => by simp [compareBytes] at h
  | _ :: _, [], h => by simp [compareBytes] at h
  | x :: a, y :: b, h => by
    rw [compareBytes] at h
    by_cases h1 : x < y
    · rw [if_pos h1] at h
      simp at h
    · by_cases h2 : y < x
      · rw [if_neg h1, if_pos h2] at h
        simp at h
      · rw [if_neg h1, if_neg h2] at h
        have e : x = y := UInt8.toNat_inj.1 (by rw [UInt8.lt_iff_toNat_lt] at h1 h2; omega)
        rw [e, cmpB_zero a b h]
theorem cmpB_trans : ∀ a b c : List UInt8, compareBytes a b < 0 → compareBytes b c < 0 → compareBytes a c < 0
  | [], [], _, h, _ => by simp [compareBytes] at h
  | [], _ :: _, [], _, h => by simp [compareBytes] at h
  | [], _ :: _, _ :: _, _, _ => by simp [compareBytes]
  | _ :: _, [], _, h, _ => by simp [compareBytes] at h
  | _ :: _, _ :: _, [], _, h => by simp [compareBytes] at h
  | x :: a, y :: b, z :: c, h, k => by
    rw [compareBytes] at h k ⊢
    have lt : ∀ p q : UInt8, p < q ↔ p.toNat < q.toNat := fun p q => UInt8.lt_iff_toNat_lt
    by_cases h1 : x < y
    · by_cases k1 : y < z
      · rw [if_pos (by rw [lt] at h1 k1 ⊢; omega)]
        decide
      · rw [if_neg k1] at k
        by_cases k2 : z < y
        · rw [if_pos k2] at k
          simp at k
        · rw [if_pos (by rw [lt] at *; omega)]
          decide
    · rw [if_neg h1] at h
      by_cases h2 : y < x
      · rw [if_pos h2] at h
        simp at h
      · rw [if_neg h2] at h
        by_cases k1 : y < z
        · rw [if_pos (by rw [lt] at *; omega)]
          decide
        · rw [if_neg k1] at k
          by_cases k2 : z < y
          · rw [if_pos k2] at k
            simp at k
          · rw [if_neg k2] at k
            rw [if_neg (by rw [lt] at *; omega), if_neg (by rw [lt] at *; omega)]
            exact cmpB_trans a b c h k

/-- a does not come behind b. -/
def leB (a b : List UInt8) : Prop := compareBytes a b ≤ 0
theorem leB_of {a b : List UInt8} : leB a b ↔ a = b ∨ compareBytes a b < 0 := by
  unfold leB
  constructor
  · intro h
    by_cases h0 : compareBytes a b = 0
    · exact .inl (cmpB_zero a b h0)
    · exact .inr (by omega)
  · rintro (rfl | h)
    · rw [cmpB_self]
      exact Int.le_refl 0
    · omega
theorem leB_trans {a b c : List UInt8} (h : leB a b) (k : leB b c) : leB a c := by
  rw [leB_of] at *
  rcases h with rfl | h
  · exact k
  · rcases k with rfl | k
    · exact .inr h
    · exact .inr (cmpB_trans a b c h k)
theorem leB_total (a b : List UInt8) : leB a b ∨ leB b a := by
  unfold leB
  rw [cmpB_swap a b]
  omega
theorem leB_antisymm {a b : List UInt8} (h : leB a b) (k : leB b a) : a = b := by
  unfold leB at *
  rw [cmpB_swap a b] at k
  exact cmpB_zero a b (by omega)

end Go.Proofs.Qxb6604654a

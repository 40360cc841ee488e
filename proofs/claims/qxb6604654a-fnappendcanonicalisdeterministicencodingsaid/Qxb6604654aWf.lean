/-
  Plain: k items in a row, whatever their depth (WF); one step of the count that zzItemLen makes.
-/
import Derived.Test.Qxb6604654aCbor
namespace Go.Proofs.Qxb6604654a

theorem seqLen_add {one : List UInt8 → Option Nat} : ∀ (i j : Nat) (l : List UInt8) (c d : Nat), seqLen one i l = some c → seqLen one j (l.drop c) = some d → seqLen one (i + j) l = some (c + d)
  | 0, j, l, c, d, h1, h2 => by
    simp [seqLen] at h1
    subst h1
    rw [Nat.zero_add, Nat.zero_add]
    simpa using h2
  | i + 1, j, l, c, d, h1, h2 => by
    obtain ⟨a, b, ha, hb, rfl⟩ := seqLen_succ h1
    rw [show i + 1 + j = (i + j) + 1 from by omega, show a + b + d = a + (b + d) from by omega]
    exact seqLen_mk ha (seqLen_add i j _ b d hb (by rw [List.drop_drop]; exact h2))
theorem seqLen_part {one : List UInt8 → Option Nat} : ∀ (i j : Nat) (l : List UInt8) (n : Nat), seqLen one (i + j) l = some n → ∃ c d, seqLen one i l = some c ∧ seqLen one j (l.drop c) = some d ∧ n = c + d
  | 0, j, l, n, h => ⟨0, n, rfl, by simpa using h, by omega⟩
  | i + 1, j, l, n, h => by
    rw [show i + 1 + j = (i + j) + 1 from by omega] at h
    obtain ⟨a, b, ha, hb, rfl⟩ := seqLen_succ h
    obtain ⟨c, d, hc, hd, rfl⟩ := seqLen_part i j _ b hb
    exact ⟨a + c, d, seqLen_mk ha hc, by rw [List.drop_drop] at hd; exact hd, by omega⟩

/-- l begins with k well-formed items, n bytes in all. -/
def WF (k : Nat) (l : List UInt8) (n : Nat) : Prop := ∃ f, seqLen (itemLen f) k l = some n

theorem WF.le {k : Nat} {l : List UInt8} {n : Nat} (h : WF k l n) : k ≤ n ∧ n ≤ l.length := by
  obtain ⟨f, h⟩ := h
  exact seqLen_le (itemLen_le f) k l n h
theorem WF_zero (l : List UInt8) (n : Nat) : WF 0 l n ↔ n = 0 := by
  constructor
  · rintro ⟨f, h⟩
    simpa [seqLen] using h.symm
  · rintro rfl
    exact ⟨0, rfl⟩
theorem WF_one (l : List UInt8) (n : Nat) : WF 1 l n ↔ ∃ f, itemLen f l = some n := by
  constructor
  · rintro ⟨f, h⟩
    obtain ⟨a, b, ha, hb, rfl⟩ := seqLen_succ h
    simp [seqLen] at hb
    subst hb
    exact ⟨f, ha⟩
  · rintro ⟨f, h⟩
    exact ⟨f, seqLen_mk (b := 0) h rfl⟩

/-- What the first of the items' heads tells. -/
theorem WF_step (k : Nat) (l : List UInt8) (n : Nat) :
    WF (k + 1) l n ↔ headOk l = true ∧ hl l + own (hmaj l) (harg l) ≤ l.length ∧ hl l + own (hmaj l) (harg l) ≤ n ∧ WF (kids (hmaj l) (harg l) + k) (l.drop (hl l + own (hmaj l) (harg l))) (n - (hl l + own (hmaj l) (harg l))) := by
  constructor
  · rintro ⟨f, h⟩
    obtain ⟨a, b, ha, hb, rfl⟩ := seqLen_succ h
    cases f with
    | zero => simp [itemLen] at ha
    | succ f =>
      obtain ⟨h1, h2, c, hc, rfl⟩ := itemLen_succ ha
      refine ⟨h1, h2, by omega, f + 1, ?_⟩
      have hc' := seqLen_mono (itemLen_up f) _ _ _ hc
      rw [show hl l + own (hmaj l) (harg l) + c + b - (hl l + own (hmaj l) (harg l)) = c + b from by omega]
      rcases kids_own (hmaj l) (harg l) with hk | hk
      · rw [hk] at hc
        simp [seqLen] at hc
        subst hc
        rw [hk]
        exact seqLen_add 0 k _ 0 b rfl (by simpa using hb)
      · rw [hk, Nat.add_zero]
        rw [hk] at hb
        exact seqLen_add _ k _ c b hc' (by rw [List.drop_drop]; simpa using hb)
  · rintro ⟨h1, h2, h3, f, h4⟩
    obtain ⟨c, d, hc, hd, hn⟩ := seqLen_part _ _ _ _ h4
    have key : itemLen (f + 1) l = some (hl l + own (hmaj l) (harg l) + c) := by
      refine itemLen_mk h1 h2 ?_
      rcases kids_own (hmaj l) (harg l) with hk | hk
      · rw [hk] at hc ⊢
        simpa [seqLen] using hc
      · rw [hk, Nat.add_zero] at hc
        exact hc
    refine ⟨f + 1, ?_⟩
    have e : n = (hl l + own (hmaj l) (harg l) + c) + d := by omega
    rw [e]
    refine seqLen_mk key ?_
    rw [List.drop_drop] at hd
    exact seqLen_mono (itemLen_up f) _ _ _ hd

/-- One step of the count: from place p with k + 1 items owed. -/
def stepOk (l : List UInt8) (p k : Nat) : Prop :=
  headOk (l.drop p) = true ∧ p + hl (l.drop p) + own (hmaj (l.drop p)) (harg (l.drop p)) ≤ l.length ∧
    kids (hmaj (l.drop p)) (harg (l.drop p)) + k ≤ l.length - (p + hl (l.drop p) + own (hmaj (l.drop p)) (harg (l.drop p)))

/-- The count's relation: the whole item's length, if it has one, is told by what is left. -/
def Owed (l : List UInt8) (p k : Nat) : Prop := ∀ t, WF 1 l t ↔ p ≤ t ∧ WF k (l.drop p) (t - p)

theorem Owed.start (l : List UInt8) : Owed l 0 1 := fun t => by simp
theorem Owed.done {l : List UInt8} {p : Nat} (h : Owed l p 0) : WF 1 l p := (h p).2 ⟨Nat.le_refl _, by rw [Nat.sub_self, WF_zero]⟩
theorem Owed.step {l : List UInt8} {p k : Nat} (h : Owed l p (k + 1)) (hp : p ≤ l.length) (hs : stepOk l p k) :
    Owed l (p + hl (l.drop p) + own (hmaj (l.drop p)) (harg (l.drop p))) (kids (hmaj (l.drop p)) (harg (l.drop p)) + k) := by
  intro t
  rw [h t]
  obtain ⟨h1, h2, _⟩ := hs
  constructor
  · rintro ⟨a, b⟩
    rw [WF_step] at b
    obtain ⟨_, _, b3, b4⟩ := b
    refine ⟨by omega, ?_⟩
    rw [List.drop_drop] at b4
    rw [show t - (p + hl (l.drop p) + own (hmaj (l.drop p)) (harg (l.drop p))) = t - p - (hl (l.drop p) + own (hmaj (l.drop p)) (harg (l.drop p))) from by omega, Nat.add_assoc]
    exact b4
  · rintro ⟨a, b⟩
    refine ⟨by omega, ?_⟩
    rw [WF_step]
    refine ⟨h1, by rw [List.length_drop]; omega, by omega, ?_⟩
    rw [List.drop_drop]
    rw [show t - (p + hl (l.drop p) + own (hmaj (l.drop p)) (harg (l.drop p))) = t - p - (hl (l.drop p) + own (hmaj (l.drop p)) (harg (l.drop p))) from by omega, Nat.add_assoc] at b
    exact b
theorem Owed.fail {l : List UInt8} {p k : Nat} (h : Owed l p (k + 1)) (hp : p ≤ l.length) (hs : ¬ stepOk l p k) : ∀ t, ¬ WF 1 l t := by
  intro t ht
  rw [h t] at ht
  obtain ⟨a, b⟩ := ht
  rw [WF_step] at b
  obtain ⟨b1, b2, b3, b4⟩ := b
  have := b4.le
  rw [List.drop_drop, List.length_drop] at this
  rw [List.length_drop] at b2
  exact hs ⟨b1, by omega, by omega⟩

end Go.Proofs.Qxb6604654a

/-
  Plain functions on byte lists: the heads of items, and the length of a well-formed item. No Go in sight.
-/
import Init.Data.List.Lemmas
namespace Go.Proofs.Qxb6604654a

/-- Byte k as a number; 0 past the end. -/
def nb (l : List UInt8) (k : Nat) : Nat := (l.getD k 0).toNat
theorem nb_lt (l : List UInt8) (k : Nat) : nb l k < 256 := (l.getD k 0).toNat_lt
theorem nb_drop (l : List UInt8) (i k : Nat) : nb (l.drop i) k = nb l (i + k) := by
  unfold nb
  rw [List.getD, List.getD, List.getElem?_drop]
theorem nb_append_left (l r : List UInt8) (k : Nat) (h : k < l.length) : nb (l ++ r) k = nb l k := by
  unfold nb
  rw [List.getD, List.getD, List.getElem?_append_left h]
theorem nb_take (l : List UInt8) (n k : Nat) (h : k < n) : nb (l.take n) k = nb l k := by
  unfold nb
  rw [List.getD, List.getD, List.getElem?_take, if_pos h]

/-- The number that the i bytes from place p on spell, the greatest first. -/
def be (l : List UInt8) (p : Nat) : Nat → Nat
  | 0 => 0
  | i + 1 => be l p i * 256 + nb l (p + i)
theorem be_lt (l : List UInt8) (p : Nat) : ∀ i, be l p i < 256 ^ i
  | 0 => by simp [be]
  | i + 1 => by
    have h1 := be_lt l p i
    have h2 := nb_lt l (p + i)
    rw [be, Nat.pow_succ]
    omega
theorem be_drop (l : List UInt8) (i p : Nat) : ∀ k, be (l.drop i) p k = be l (i + p) k
  | 0 => rfl
  | k + 1 => by rw [be, be, be_drop l i p k, nb_drop, Nat.add_assoc]
theorem be_append_left (l r : List UInt8) (p : Nat) : ∀ k, p + k ≤ l.length → be (l ++ r) p k = be l p k
  | 0, _ => rfl
  | k + 1, h => by rw [be, be, be_append_left l r p k (by omega), nb_append_left l r (p + k) (by omega)]

/-- Major type, low five bits, bytes of the head, argument. -/
def hmaj (l : List UInt8) : Nat := nb l 0 / 32
def hinfo (l : List UInt8) : Nat := nb l 0 % 32
def wide (i : Nat) : Nat := if i < 24 then 0 else if i = 24 then 1 else if i = 25 then 2 else if i = 26 then 4 else 8
def hl (l : List UInt8) : Nat := 1 + wide (hinfo l)
def harg (l : List UInt8) : Nat := if hinfo l < 24 then hinfo l else be l 1 (wide (hinfo l))
/-- The head lies there whole, and is none of the reserved ones. -/
def headOk (l : List UInt8) : Bool := decide (hinfo l ≤ 27 ∧ hl l ≤ l.length)

theorem hmaj_lt (l : List UInt8) : hmaj l < 8 := by have := nb_lt l 0; unfold hmaj; omega
theorem wide_le (i : Nat) : wide i ≤ 8 := by unfold wide; (repeat' split) <;> omega
theorem hl_pos (l : List UInt8) : 1 ≤ hl l := by unfold hl; omega
theorem hl_le (l : List UInt8) : hl l ≤ 9 := by have := wide_le (hinfo l); unfold hl; omega
theorem harg_lt (l : List UInt8) : harg l < 18446744073709551616 := by
  unfold harg
  split
  · have := nb_lt l 0; unfold hinfo; omega
  · have h1 := be_lt l 1 (wide (hinfo l))
    have h2 : 256 ^ wide (hinfo l) ≤ 256 ^ 8 := Nat.pow_le_pow_right (by decide) (wide_le _)
    have h3 : 256 ^ 8 = 18446744073709551616 := by decide
    omega

theorem headOk_iff {l : List UInt8} : headOk l = true ↔ hinfo l ≤ 27 ∧ hl l ≤ l.length := by simp [headOk]

/-- A head is told by its own bytes. -/
theorem head_append (l r : List UInt8) (h : 0 < l.length) : hmaj (l ++ r) = hmaj l ∧ hinfo (l ++ r) = hinfo l ∧ hl (l ++ r) = hl l := by
  have e : nb (l ++ r) 0 = nb l 0 := nb_append_left l r 0 h
  unfold hmaj hl hinfo
  rw [e]
  exact ⟨rfl, rfl, rfl⟩
theorem harg_append (l r : List UInt8) (h : hl l ≤ l.length) : harg (l ++ r) = harg l := by
  have hp := hl_pos l
  obtain ⟨_, e2, _⟩ := head_append l r (by omega)
  unfold harg
  rw [e2]
  split
  · rfl
  · exact be_append_left l r 1 _ (by unfold hl at h; omega)

/-- k items one behind the other, each of the length that 'one' tells: their length in all. -/
def seqLen (one : List UInt8 → Option Nat) : Nat → List UInt8 → Option Nat
  | 0, _ => some 0
  | k + 1, l => match one l with
    | none => none
    | some a => match seqLen one k (l.drop a) with
      | none => none
      | some b => some (a + b)

/-- How many items a head of this major type and argument opens. -/
def kids (m arg : Nat) : Nat := if m = 4 then arg else if m = 5 then 2 * arg else if m = 6 then 1 else 0
/-- How many bytes of its own a string has. -/
def own (m arg : Nat) : Nat := if m = 2 ∨ m = 3 then arg else 0

/-- The length of the well-formed item that l begins with; the first number bounds the depth. -/
def itemLen : Nat → List UInt8 → Option Nat
  | 0, _ => none
  | f + 1, l =>
    if headOk l = true then
      if hl l + own (hmaj l) (harg l) ≤ l.length then
        match seqLen (itemLen f) (kids (hmaj l) (harg l)) (l.drop (hl l)) with
        | none => none
        | some b => some (hl l + own (hmaj l) (harg l) + b)
      else none
    else none

theorem seqLen_succ {one : List UInt8 → Option Nat} {k : Nat} {l : List UInt8} {n : Nat} (h : seqLen one (k + 1) l = some n) : ∃ a b, one l = some a ∧ seqLen one k (l.drop a) = some b ∧ n = a + b := by
  rw [seqLen] at h
  split at h
  · simp at h
  · rename_i a ha
    split at h
    · simp at h
    · rename_i b hb
      exact ⟨a, b, ha, hb, by simpa using h.symm⟩
theorem seqLen_mk {one : List UInt8 → Option Nat} {k : Nat} {l : List UInt8} {a b : Nat} (h1 : one l = some a) (h2 : seqLen one k (l.drop a) = some b) : seqLen one (k + 1) l = some (a + b) := by
  rw [seqLen, h1]
  simp only [h2]
theorem itemLen_succ {f : Nat} {l : List UInt8} {n : Nat} (h : itemLen (f + 1) l = some n) :
    headOk l = true ∧ hl l + own (hmaj l) (harg l) ≤ l.length ∧ ∃ b, seqLen (itemLen f) (kids (hmaj l) (harg l)) (l.drop (hl l)) = some b ∧ n = hl l + own (hmaj l) (harg l) + b := by
  rw [itemLen] at h
  split at h
  · rename_i h1
    split at h
    · rename_i h2
      split at h
      · simp at h
      · rename_i b hb
        exact ⟨h1, h2, b, hb, by simpa using h.symm⟩
    · simp at h
  · simp at h
theorem itemLen_mk {f : Nat} {l : List UInt8} {b : Nat} (h1 : headOk l = true) (h2 : hl l + own (hmaj l) (harg l) ≤ l.length) (h3 : seqLen (itemLen f) (kids (hmaj l) (harg l)) (l.drop (hl l)) = some b) :
    itemLen (f + 1) l = some (hl l + own (hmaj l) (harg l) + b) := by
  rw [itemLen, if_pos h1, if_pos h2, h3]
theorem kids_own (m arg : Nat) : kids m arg = 0 ∨ own m arg = 0 := by
  unfold kids own
  by_cases h : m = 2 ∨ m = 3
  · left; rcases h with h | h <;> subst h <;> simp
  · right; simp [h]

/-- It lies within l, and is not empty. -/
theorem seqLen_le {one : List UInt8 → Option Nat} (h1 : ∀ l n, one l = some n → 1 ≤ n ∧ n ≤ l.length) : ∀ (k : Nat) (l : List UInt8) (n : Nat), seqLen one k l = some n → k ≤ n ∧ n ≤ l.length
  | 0, l, n, h => by simp [seqLen] at h; omega
  | k + 1, l, n, h => by
    obtain ⟨a, b, ha, hb, rfl⟩ := seqLen_succ h
    have := h1 l a ha
    have h2 := seqLen_le h1 k _ _ hb
    rw [List.length_drop] at h2
    omega
theorem itemLen_le : ∀ (f : Nat) (l : List UInt8) (n : Nat), itemLen f l = some n → 1 ≤ n ∧ n ≤ l.length
  | 0, l, n, h => by simp [itemLen] at h
  | f + 1, l, n, h => by
    obtain ⟨h1, h2, b, hb, rfl⟩ := itemLen_succ h
    have h3 := seqLen_le (itemLen_le f) _ _ _ hb
    rw [List.length_drop] at h3
    have := hl_pos l
    rcases kids_own (hmaj l) (harg l) with h | h
    · rw [h] at hb
      simp [seqLen] at hb
      omega
    · omega

/-- More depth never hurts. -/
theorem seqLen_mono {one two : List UInt8 → Option Nat} (h1 : ∀ l n, one l = some n → two l = some n) : ∀ (k : Nat) (l : List UInt8) (n : Nat), seqLen one k l = some n → seqLen two k l = some n
  | 0, l, n, h => h
  | k + 1, l, n, h => by
    obtain ⟨a, b, ha, hb, rfl⟩ := seqLen_succ h
    exact seqLen_mk (h1 l a ha) (seqLen_mono h1 k _ _ hb)
theorem itemLen_up : ∀ (f : Nat) (l : List UInt8) (n : Nat), itemLen f l = some n → itemLen (f + 1) l = some n
  | 0, l, n, h => by simp [itemLen] at h
  | f + 1, l, n, h => by
    obtain ⟨h1, h2, b, hb, rfl⟩ := itemLen_succ h
    exact itemLen_mk h1 h2 (seqLen_mono (itemLen_up f) _ _ _ hb)
theorem itemLen_mono {f g : Nat} (h : f ≤ g) {l : List UInt8} {n : Nat} (hi : itemLen f l = some n) : itemLen g l = some n := by
  obtain ⟨d, rfl⟩ := Nat.exists_eq_add_of_le h
  clear h
  induction d with
  | zero => exact hi
  | succ d ih => exact itemLen_up _ _ _ ih

/-- An item is told by its own bytes: what follows is nothing to it. -/
theorem seqLen_append {one : List UInt8 → Option Nat} (h1 : ∀ l n, one l = some n → 1 ≤ n ∧ n ≤ l.length) (h2 : ∀ l r n, one l = some n → one (l ++ r) = some n) :
    ∀ (k : Nat) (l r : List UInt8) (n : Nat), seqLen one k l = some n → seqLen one k (l ++ r) = some n
  | 0, l, r, n, h => h
  | k + 1, l, r, n, h => by
    obtain ⟨a, b, ha, hb, rfl⟩ := seqLen_succ h
    refine seqLen_mk (h2 l r a ha) ?_
    rw [List.drop_append_of_le_length (h1 l a ha).2]
    exact seqLen_append h1 h2 k _ r _ hb
theorem itemLen_append : ∀ (f : Nat) (l r : List UInt8) (n : Nat), itemLen f l = some n → itemLen f (l ++ r) = some n
  | 0, l, r, n, h => by simp [itemLen] at h
  | f + 1, l, r, n, h => by
    obtain ⟨h1, h2, b, hb, rfl⟩ := itemLen_succ h
    rw [headOk_iff] at h1
    have hp := hl_pos l
    obtain ⟨e1, e2, e3⟩ := head_append l r (by omega)
    have e4 := harg_append l r h1.2
    have := itemLen_mk (f := f) (l := l ++ r) (b := b) (by rw [headOk_iff, e2, e3, List.length_append]; omega) (by rw [e1, e3, e4, List.length_append]; omega)
      (by rw [e1, e3, e4, List.drop_append_of_le_length h1.2]; exact seqLen_append (itemLen_le f) (itemLen_append f) _ _ _ _ hb)
    rw [e1, e3, e4] at this
    exact this
/-- The item's own bytes alone. -/
theorem seqLen_take {one : List UInt8 → Option Nat} (h1 : ∀ l n, one l = some n → 1 ≤ n ∧ n ≤ l.length) (h2 : ∀ l n, one l = some n → ∀ m, n ≤ m → one (l.take m) = some n) :
    ∀ (k : Nat) (l : List UInt8) (n : Nat), seqLen one k l = some n → ∀ m, n ≤ m → seqLen one k (l.take m) = some n
  | 0, l, n, h, m, _ => h
  | k + 1, l, n, h, m, hm => by
    obtain ⟨a, b, ha, hb, rfl⟩ := seqLen_succ h
    refine seqLen_mk (h2 l a ha m (by omega)) ?_
    rw [List.drop_take]
    exact seqLen_take h1 h2 k _ _ hb _ (by omega)
theorem itemLen_take : ∀ (f : Nat) (l : List UInt8) (n : Nat), itemLen f l = some n → ∀ m, n ≤ m → itemLen f (l.take m) = some n
  | 0, l, n, h, _, _ => by simp [itemLen] at h
  | f + 1, l, n, h, m, hm => by
    obtain ⟨h1, h2, b, hb, rfl⟩ := itemLen_succ h
    rw [headOk_iff] at h1
    have hp := hl_pos l
    have hlen : (l.take m).length = min m l.length := List.length_take
    have el : l = l.take m ++ l.drop m := (List.take_append_drop m l).symm
    have hb' := seqLen_le (itemLen_le f) _ _ _ hb
    obtain ⟨e1, e2, e3⟩ := head_append (l.take m) (l.drop m) (by omega)
    rw [← el] at e1 e2 e3
    have e4 := harg_append (l.take m) (l.drop m) (by omega)
    rw [← el] at e4
    have := itemLen_mk (f := f) (l := l.take m) (b := b) (by rw [headOk_iff, ← e2, ← e3]; omega) (by rw [← e1, ← e3, ← e4]; omega)
      (by rw [← e1, ← e3, ← e4, List.drop_take]; exact seqLen_take (itemLen_le f) (itemLen_take f) _ _ _ hb _ (by omega))
    rw [← e1, ← e3, ← e4] at this
    exact this

end Go.Proofs.Qxb6604654a

/-
  Plain: what appendCanonical may write for an item (Enc), and its length.
-/
import Derived.Test.Qxb6604654aEhead
import Derived.Test.Qxb6604654aOrd
namespace Go.Proofs.Qxb6604654a

/-- k items in a row, each written by 'enc'. -/
def SeqEnc (enc : List UInt8 → List UInt8 → Prop) (one : List UInt8 → Option Nat) : Nat → List UInt8 → List (List UInt8) → Prop
  | 0, _, os => os = []
  | k + 1, l, os => ∃ a o os', one l = some a ∧ enc l o ∧ SeqEnc enc one k (l.drop a) os' ∧ os = o :: os'

/-- Keys and values in turn. -/
def flat (ps : List (List UInt8 × List UInt8)) : List (List UInt8) := ps.flatMap fun p => [p.1, p.2]
theorem flat_nil : flat [] = [] := rfl
theorem flat_cons (p : List UInt8 × List UInt8) (ps : List (List UInt8 × List UInt8)) : flat (p :: ps) = p.1 :: p.2 :: flat ps := rfl
theorem flat_append (ps qs : List (List UInt8 × List UInt8)) : flat (ps ++ qs) = flat ps ++ flat qs := by simp [flat]
theorem flat_length (ps : List (List UInt8 × List UInt8)) : (flat ps).length = 2 * ps.length := by
  induction ps with
  | nil => rfl
  | cons p ps ih => rw [flat_cons, List.length_cons, List.length_cons, List.length_cons, ih]; omega

/-- Keys ascend, ties allowed. -/
def Asc (ps : List (List UInt8 × List UInt8)) : Prop := ps.Pairwise fun p q => leB p.1 q.1

def Enc : Nat → List UInt8 → List UInt8 → Prop
  | 0, _, _ => False
  | f + 1, l, o =>
    if hmaj l = 2 ∨ hmaj l = 3 then o = ehead (hmaj l) (harg l) ++ (l.drop (hl l)).take (harg l)
    else if hmaj l = 4 then ∃ os, SeqEnc (Enc f) (itemLen f) (harg l) (l.drop (hl l)) os ∧ o = ehead 4 (harg l) ++ os.flatten
    else if hmaj l = 5 then ∃ ps qs, ps.length = harg l ∧ SeqEnc (Enc f) (itemLen f) (2 * harg l) (l.drop (hl l)) (flat ps) ∧ qs.Perm ps ∧ Asc qs ∧ o = ehead 5 (harg l) ++ (flat qs).flatten
    else if hmaj l = 6 then ∃ o1, Enc f (l.drop (hl l)) o1 ∧ o = ehead 6 (harg l) ++ o1
    else if hmaj l = 7 then o = l.take (hl l)
    else o = ehead (hmaj l) (harg l)

theorem SeqEnc.snoc {enc : List UInt8 → List UInt8 → Prop} {one : List UInt8 → Option Nat} {a : Nat} {o : List UInt8} : ∀ (j : Nat) (l : List UInt8) (os : List (List UInt8)) (c : Nat), SeqEnc enc one j l os → seqLen one j l = some c →
    one (l.drop c) = some a → enc (l.drop c) o → SeqEnc enc one (j + 1) l (os ++ [o])
  | 0, l, os, c, h, hc, h1, h2 => by
    simp only [SeqEnc] at h
    simp [seqLen] at hc
    subst h hc
    exact ⟨a, o, [], h1, h2, rfl, rfl⟩
  | j + 1, l, os, c, h, hc, h1, h2 => by
    obtain ⟨a', o', os', e1, e2, e3, rfl⟩ := h
    obtain ⟨a'', b, g1, g2, rfl⟩ := seqLen_succ hc
    rw [e1] at g1
    obtain rfl := Option.some.inj g1
    rw [← List.drop_drop] at h1 h2
    exact ⟨a', o', os' ++ [o], e1, e2, SeqEnc.snoc j _ os' b e3 g2 h1 h2, rfl⟩

theorem SeqEnc.length {enc : List UInt8 → List UInt8 → Prop} {one : List UInt8 → Option Nat} : ∀ (k : Nat) (l : List UInt8) (os : List (List UInt8)), SeqEnc enc one k l os → os.length = k
  | 0, l, os, h => by simp only [SeqEnc] at h; subst h; rfl
  | k + 1, l, os, h => by
    obtain ⟨a, o, os', _, _, h3, rfl⟩ := h
    rw [List.length_cons, SeqEnc.length k _ os' h3]

theorem ehead_len_le (l : List UInt8) (hok : headOk l = true) : (ehead (hmaj l) (harg l)).length ≤ hl l := by
  rw [headOk_iff] at hok
  obtain ⟨h27, _⟩ := hok
  by_cases hs : hinfo l < 24
  · have e2 : harg l = hinfo l := by unfold harg; rw [if_pos hs]
    have := hl_pos l
    unfold ehead
    rw [if_pos (by omega)]
    exact this
  have hs' : hinfo l = 24 ∨ hinfo l = 25 ∨ hinfo l = 26 ∨ hinfo l = 27 := by omega
  have e2 : harg l = be l 1 (wide (hinfo l)) := by unfold harg; rw [if_neg hs]
  have hb := be_lt l 1 (wide (hinfo l))
  rw [← e2] at hb
  rcases hs' with hs' | hs' | hs' | hs'
  · have e1 : hl l = 2 := by unfold hl wide; rw [hs']; rfl
    have : harg l < 256 := by rw [hs'] at hb; exact hb
    rw [e1]
    unfold ehead
    (repeat' split) <;> simp <;> omega
  · have e1 : hl l = 3 := by unfold hl wide; rw [hs']; rfl
    have : harg l < 65536 := by rw [hs'] at hb; exact hb
    rw [e1]
    unfold ehead
    (repeat' split) <;> simp [be2] <;> omega
  · have e1 : hl l = 5 := by unfold hl wide; rw [hs']; rfl
    have : harg l < 4294967296 := by rw [hs'] at hb; exact hb
    rw [e1]
    unfold ehead
    (repeat' split) <;> simp [be2, be4] <;> omega
  · have e1 : hl l = 9 := by unfold hl wide; rw [hs']; rfl
    rw [e1]
    exact (ehead_len _ _).2

theorem SeqEnc.len {enc : List UInt8 → List UInt8 → Prop} {one : List UInt8 → Option Nat} (h1 : ∀ l o a, enc l o → one l = some a → o.length ≤ a) : ∀ (k : Nat) (l : List UInt8) (os : List (List UInt8)) (c : Nat), SeqEnc enc one k l os → seqLen one k l = some c → os.flatten.length ≤ c
  | 0, l, os, c, h, hc => by
    simp only [SeqEnc] at h
    subst h
    simp
  | k + 1, l, os, c, h, hc => by
    obtain ⟨a', o', os', e1, e2, e3, rfl⟩ := h
    obtain ⟨a'', b, g1, g2, rfl⟩ := seqLen_succ hc
    rw [e1] at g1
    obtain rfl := Option.some.inj g1
    have q1 := h1 l o' a' e2 e1
    have q2 := SeqEnc.len h1 k _ os' b e3 g2
    rw [List.flatten_cons, List.length_append]
    omega
theorem flat_perm_len {ps qs : List (List UInt8 × List UInt8)} (h : qs.Perm ps) : (flat qs).flatten.length = (flat ps).flatten.length := by
  induction h with
  | nil => rfl
  | cons x _ ih => simp only [flat_cons, List.flatten_cons, List.length_append, ih]
  | swap x y l => simp only [flat_cons, List.flatten_cons, List.length_append]; omega
  | trans _ _ h1 h2 => rw [h1, h2]

theorem Enc_len : ∀ (f : Nat) (l o : List UInt8) (a : Nat), Enc f l o → itemLen f l = some a → o.length ≤ a
  | 0, l, o, a, h, _ => by simp [Enc] at h
  | f + 1, l, o, a, h, hi => by
    obtain ⟨hok, hown, b, hb, rfl⟩ := itemLen_succ hi
    have hh := ehead_len_le l hok
    have hm := hmaj_lt l
    rw [Enc] at h
    by_cases h23 : hmaj l = 2 ∨ hmaj l = 3
    · rw [if_pos h23] at h
      have eo : own (hmaj l) (harg l) = harg l := by unfold own; rw [if_pos h23]
      rw [h, List.length_append, List.length_take, eo]
      omega
    rw [if_neg h23] at h
    by_cases h4 : hmaj l = 4
    · rw [if_pos h4] at h
      obtain ⟨os, h1, rfl⟩ := h
      rw [h4] at hb hh ⊢
      have := SeqEnc.len (Enc_len f) _ _ os b h1 hb
      rw [List.length_append]
      omega
    rw [if_neg h4] at h
    by_cases h5 : hmaj l = 5
    · rw [if_pos h5] at h
      obtain ⟨ps, qs, _, h1, hp, _, rfl⟩ := h
      rw [h5] at hb hh ⊢
      have := SeqEnc.len (Enc_len f) _ _ _ b h1 hb
      rw [List.length_append, flat_perm_len hp]
      omega
    rw [if_neg h5] at h
    by_cases h6 : hmaj l = 6
    · rw [if_pos h6] at h
      obtain ⟨o1, h1, rfl⟩ := h
      rw [h6] at hb hh ⊢
      have e : kids 6 (harg l) = 1 := rfl
      rw [e] at hb
      obtain ⟨a', c, ha, hc, rfl⟩ := seqLen_succ hb
      have := Enc_len f _ o1 a' h1 ha
      rw [List.length_append]
      omega
    rw [if_neg h6] at h
    by_cases h7 : hmaj l = 7
    · rw [if_pos h7] at h
      subst h
      rw [List.length_take]
      omega
    rw [if_neg h7] at h
    subst h
    omega

end Go.Proofs.Qxb6604654a

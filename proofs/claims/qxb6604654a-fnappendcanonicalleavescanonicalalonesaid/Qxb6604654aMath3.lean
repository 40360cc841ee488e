/-
  Plain: a strictly canonical item is written as it stands.
-/
import Derived.Test.Qxb6604654aMath
namespace Go.Proofs.Qxb6604654a
open Go.Lib (compareBytes)

/-- Keys ascend strictly. -/
def SAsc (ps : List (List UInt8 × List UInt8)) : Prop := ps.Pairwise fun p q => compareBytes p.1 q.1 < 0

theorem sorted_unique : ∀ (ps qs : List (List UInt8 × List UInt8)), SAsc ps → Asc qs → qs.Perm ps → qs = ps
  | [], qs, _, _, hp => List.Perm.eq_nil hp
  | p :: ps, [], _, _, hp => by simp at hp
  | p :: ps, q :: qs, h1, h2, hp => by
    unfold SAsc at h1
    unfold Asc at h2
    rw [List.pairwise_cons] at h1 h2
    have e : q = p := by
      by_cases h : q = p
      · exact h
      · have m1 : q ∈ p :: ps := hp.mem_iff.1 List.mem_cons_self
        have m2 : p ∈ q :: qs := hp.mem_iff.2 List.mem_cons_self
        rcases List.mem_cons.1 m1 with m1 | m1
        · exact m1
        rcases List.mem_cons.1 m2 with m2 | m2
        · exact m2.symm
        have a1 := h1.1 q m1
        have a2 := h2.1 p m2
        unfold leB at a2
        rw [cmpB_swap p.1 q.1] at a2
        omega
    subst e
    rw [sorted_unique ps qs h1.2 h2.2 (List.Perm.cons_inv hp)]

theorem SeqCanon_same {enc : List UInt8 → List UInt8 → Prop} {c : List UInt8 → Prop} {one : List UInt8 → Option Nat} (h1 : ∀ l o a, enc l o → one l = some a → c l → o = l.take a) :
    ∀ (k : Nat) (l : List UInt8) (os : List (List UInt8)) (n : Nat), SeqEnc enc one k l os → seqLen one k l = some n → SeqCanon c one k l → os.flatten = l.take n
  | 0, l, os, n, h, hn, _ => by
    simp only [SeqEnc] at h
    simp [seqLen] at hn
    subst h hn
    rfl
  | k + 1, l, os, n, h, hn, hc => by
    obtain ⟨a, o, os', e1, e2, e3, rfl⟩ := h
    obtain ⟨a', b, g1, g2, rfl⟩ := seqLen_succ hn
    rw [e1] at g1
    obtain rfl := Option.some.inj g1
    rw [SeqCanon_succ e1] at hc
    rw [List.flatten_cons, h1 l o a e2 e1 hc.1, SeqCanon_same h1 k _ os' b e3 g2 hc.2, List.take_add]

theorem MapCanon_same {enc : List UInt8 → List UInt8 → Prop} {c : List UInt8 → Prop} {one : List UInt8 → Option Nat} (h1 : ∀ l o a, enc l o → one l = some a → c l → o = l.take a) :
    ∀ (ps : List (List UInt8 × List UInt8)) (prev : Option (List UInt8)) (l : List UInt8) (n : Nat), SeqEnc enc one (2 * ps.length) l (flat ps) → seqLen one (2 * ps.length) l = some n → MapCanon true c one ps.length prev l →
      (flat ps).flatten = l.take n ∧ SAsc ps ∧ ∀ p0, prev = some p0 → ∀ p ∈ ps, compareBytes p0 p.1 < 0
  | [], prev, l, n, h, hn, _ => by
    simp [seqLen] at hn
    subst hn
    exact ⟨rfl, List.Pairwise.nil, fun _ _ p hp => by simp at hp⟩
  | p :: ps, prev, l, n, h, hn, hc => by
    rw [List.length_cons, show 2 * (ps.length + 1) = (2 * ps.length + 1) + 1 from by omega] at h hn
    rw [flat_cons] at h
    obtain ⟨a, o, os', e1, e2, e3, eo⟩ := h
    obtain ⟨a2, o2, os2, f1, f2, f3, fo⟩ := e3
    simp only [List.cons.injEq] at eo
    obtain ⟨rfl, rfl⟩ := eo
    simp only [List.cons.injEq] at fo
    obtain ⟨rfl, rfl⟩ := fo
    obtain ⟨a', b, g1, g2, rfl⟩ := seqLen_succ hn
    rw [e1] at g1
    obtain rfl := Option.some.inj g1
    obtain ⟨a'', b2, g3, g4, rfl⟩ := seqLen_succ g2
    rw [f1] at g3
    obtain rfl := Option.some.inj g3
    rw [List.length_cons, MapCanon_succ e1 f1] at hc
    obtain ⟨c1, hk, c2, hr⟩ := hc
    rw [List.drop_drop] at f3 g4
    have t1 := h1 l _ a e2 e1 c1
    have t2 := h1 _ _ a2 f2 f1 c2
    obtain ⟨r1, r2, r3⟩ := MapCanon_same h1 ps _ _ b2 f3 g4 hr
    rw [← t1] at r3 hk
    have r4 := r3 p.1 rfl
    refine ⟨?_, List.pairwise_cons.2 ⟨r4, r2⟩, ?_⟩
    · rw [flat_cons, List.flatten_cons, List.flatten_cons, r1, t1, t2, ← List.drop_drop, ← List.take_add, ← List.take_add]
    · intro p0 ep q hq
      subst ep
      have hk2 : compareBytes p0 p.1 < 0 := by
        rcases hk with hk | hk
        · exact hk
        · simp at hk
      rcases List.mem_cons.1 hq with rfl | hq
      · exact hk2
      · exact cmpB_trans _ _ _ hk2 (r4 q hq)

theorem Enc_same : ∀ (f : Nat) (l o : List UInt8) (a : Nat), Enc f l o → itemLen f l = some a → Canon true f l → o = l.take a
  | 0, l, o, a, h, _, _ => by simp [Enc] at h
  | f + 1, l, o, a, h, hi, hc => by
    obtain ⟨hok, hown, b, hb, rfl⟩ := itemLen_succ hi
    obtain ⟨c0, c4, c5, c6⟩ := hc
    rw [Enc] at h
    by_cases h7 : hmaj l = 7
    · have e1 : own (hmaj l) (harg l) = 0 := by rw [h7]; rfl
      have e2 : kids (hmaj l) (harg l) = 0 := by rw [h7]; rfl
      rw [e2] at hb
      simp [seqLen] at hb
      subst hb
      rw [if_neg (by omega), if_neg (by omega), if_neg (by omega), if_neg (by omega), if_pos h7] at h
      rw [h, e1]
      rfl
    have hmn : minimal (hinfo l) (harg l) = true := by
      rcases c0 with c0 | c0
      · exact absurd c0 h7
      · exact c0
    have hh := ehead_of_minimal l hok hmn
    by_cases h23 : hmaj l = 2 ∨ hmaj l = 3
    · rw [if_pos h23] at h
      have eo : own (hmaj l) (harg l) = harg l := by unfold own; rw [if_pos h23]
      have ek : kids (hmaj l) (harg l) = 0 := by unfold kids; rw [if_neg (by omega), if_neg (by omega), if_neg (by omega)]
      rw [ek] at hb
      simp [seqLen] at hb
      subst hb
      rw [h, hh, eo, Nat.add_zero, List.take_add]
    have eo : own (hmaj l) (harg l) = 0 := by unfold own; rw [if_neg h23]
    rw [if_neg h23] at h
    rw [eo, Nat.add_zero]
    by_cases h4 : hmaj l = 4
    · rw [if_pos h4] at h
      obtain ⟨os, h1, rfl⟩ := h
      rw [h4] at hb hh
      rw [hh, SeqCanon_same (Enc_same f) _ _ os b h1 hb (c4 h4), List.take_add]
    rw [if_neg h4] at h
    by_cases h5 : hmaj l = 5
    · rw [if_pos h5] at h
      obtain ⟨ps, qs, hpl, h1, hp, hasc, rfl⟩ := h
      rw [h5] at hb hh
      have e : kids 5 (harg l) = 2 * harg l := rfl
      rw [e] at hb
      have c5' := c5 h5
      rw [← hpl] at h1 hb c5'
      obtain ⟨r1, r2, _⟩ := MapCanon_same (Enc_same f) ps none _ b h1 hb c5'
      rw [sorted_unique ps qs r2 hasc hp, hh, r1, List.take_add]
    rw [if_neg h5] at h
    by_cases h6 : hmaj l = 6
    · rw [if_pos h6] at h
      obtain ⟨o1, h1, rfl⟩ := h
      rw [h6] at hb hh
      have e : kids 6 (harg l) = 1 := rfl
      rw [e] at hb
      obtain ⟨a', c, ha, hc', rfl⟩ := seqLen_succ hb
      simp [seqLen] at hc'
      subst hc'
      rw [hh, Enc_same f _ o1 a' h1 ha (c6 h6), Nat.add_zero, List.take_add]
    rw [if_neg h6, if_neg h7] at h
    have ek : kids (hmaj l) (harg l) = 0 := by unfold kids; rw [if_neg h4, if_neg h5, if_neg h6]
    rw [ek] at hb
    simp [seqLen] at hb
    subst hb
    rw [h, hh]
    rfl

end Go.Proofs.Qxb6604654a

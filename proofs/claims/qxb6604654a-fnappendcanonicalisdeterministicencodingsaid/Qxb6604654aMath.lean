/-
  Plain: what Enc writes is a well-formed item, with shortest heads and ascending keys; a strictly canonical item is written as it stands.
-/
import Derived.Test.Qxb6604654aCanonP
namespace Go.Proofs.Qxb6604654a
open Go.Lib (compareBytes)

theorem flat_mem {ps : List (List UInt8 × List UInt8)} {o : List UInt8} : o ∈ flat ps ↔ ∃ p ∈ ps, o = p.1 ∨ o = p.2 := by
  simp [flat]
theorem seqLen_flatten {f : Nat} : ∀ os : List (List UInt8), (∀ o ∈ os, itemLen f o = some o.length) → seqLen (itemLen f) os.length os.flatten = some os.flatten.length
  | [], _ => rfl
  | o :: os, h => by
    have h1 := itemLen_append f o os.flatten _ (h o List.mem_cons_self)
    have h2 := seqLen_flatten os fun x hx => h x (List.mem_cons_of_mem _ hx)
    rw [List.length_cons, List.flatten_cons, List.length_append]
    refine seqLen_mk h1 ?_
    rw [List.drop_left]
    exact h2
theorem SeqEnc.all {enc : List UInt8 → List UInt8 → Prop} {one : List UInt8 → Option Nat} {P : List UInt8 → Prop} (h1 : ∀ l o a, enc l o → one l = some a → P o) : ∀ (k : Nat) (l : List UInt8) (os : List (List UInt8)), SeqEnc enc one k l os → ∀ o ∈ os, P o
  | 0, l, os, h => by simp only [SeqEnc] at h; subst h; intro o ho; simp at ho
  | k + 1, l, os, h => by
    obtain ⟨a, o, os', e1, e2, e3, rfl⟩ := h
    intro o' ho
    rcases List.mem_cons.1 ho with rfl | ho
    · exact h1 l _ a e2 e1
    · exact SeqEnc.all h1 k _ os' e3 o' ho
theorem flat_perm_all {ps qs : List (List UInt8 × List UInt8)} {P : List UInt8 → Prop} (hp : qs.Perm ps) (h : ∀ o ∈ flat ps, P o) : ∀ o ∈ flat qs, P o := by
  intro o ho
  obtain ⟨p, hp1, hp2⟩ := flat_mem.1 ho
  exact h o (flat_mem.2 ⟨p, hp.mem_iff.1 hp1, hp2⟩)

/-- What is written is one well-formed item. -/
theorem Enc_wf : ∀ (f : Nat) (l o : List UInt8) (a : Nat), Enc f l o → itemLen f l = some a → itemLen f o = some o.length
  | 0, l, o, a, h, _ => by simp [Enc] at h
  | f + 1, l, o, a, h, hi => by
    obtain ⟨hok, hown, b, hb, rfl⟩ := itemLen_succ hi
    have hm := hmaj_lt l
    have hx := harg_lt l
    have key : ∀ (m : Nat) (body : List UInt8), m = hmaj l → own m (harg l) ≤ body.length → (∃ c, seqLen (itemLen f) (kids m (harg l)) body = some c ∧ own m (harg l) + c = body.length) → itemLen (f + 1) (ehead m (harg l) ++ body) = some (ehead m (harg l) ++ body).length := by
      intro m body em h1 h2
      subst em
      obtain ⟨c, hc, hc2⟩ := h2
      obtain ⟨r1, r2, r3, r4, _⟩ := ehead_reads (hmaj l) (harg l) body hm hx
      have := itemLen_mk (f := f) (l := ehead (hmaj l) (harg l) ++ body) (b := c) r4 (by rw [r1, r2, r3, List.length_append]; omega) (by rw [r1, r2, r3, List.drop_left]; exact hc)
      rw [this, r1, r2, r3, List.length_append]
      congr 1
      omega
    rw [Enc] at h
    by_cases h23 : hmaj l = 2 ∨ hmaj l = 3
    · rw [if_pos h23] at h
      have eo : own (hmaj l) (harg l) = harg l := by unfold own; rw [if_pos h23]
      have ek : kids (hmaj l) (harg l) = 0 := by unfold kids; rw [if_neg (by omega), if_neg (by omega), if_neg (by omega)]
      have hl2 : ((l.drop (hl l)).take (harg l)).length = harg l := by rw [List.length_take, List.length_drop]; omega
      rw [h]
      exact key _ _ rfl (by rw [eo, hl2]; exact Nat.le_refl _) ⟨0, by rw [ek]; rfl, by rw [eo, hl2]; rfl⟩
    rw [if_neg h23] at h
    by_cases h4 : hmaj l = 4
    · rw [if_pos h4] at h
      obtain ⟨os, h1, rfl⟩ := h
      have hall := SeqEnc.all (P := fun o => itemLen f o = some o.length) (Enc_wf f) _ _ _ h1
      have hs := seqLen_flatten os hall
      rw [SeqEnc.length _ _ _ h1] at hs
      exact key 4 _ h4.symm (by simp [own]) ⟨_, hs, by simp [own]⟩
    rw [if_neg h4] at h
    by_cases h5 : hmaj l = 5
    · rw [if_pos h5] at h
      obtain ⟨ps, qs, hpl, h1, hp, _, rfl⟩ := h
      have hall := flat_perm_all hp (SeqEnc.all (P := fun o => itemLen f o = some o.length) (Enc_wf f) _ _ _ h1)
      have hs := seqLen_flatten (flat qs) hall
      rw [flat_length, hp.length_eq, hpl] at hs
      exact key 5 _ h5.symm (by simp [own]) ⟨_, hs, by simp [own]⟩
    rw [if_neg h5] at h
    by_cases h6 : hmaj l = 6
    · rw [if_pos h6] at h
      obtain ⟨o1, h1, rfl⟩ := h
      rw [h6] at hb
      have e : kids 6 (harg l) = 1 := rfl
      rw [e] at hb
      obtain ⟨a', c, ha, _, rfl⟩ := seqLen_succ hb
      have hw := Enc_wf f _ o1 a' h1 ha
      exact key 6 _ h6.symm (by simp [own]) ⟨o1.length, seqLen_mk (b := 0) hw rfl, by simp [own]⟩
    rw [if_neg h6] at h
    by_cases h7 : hmaj l = 7
    · rw [if_pos h7] at h
      subst h
      have e1 : own (hmaj l) (harg l) = 0 := by rw [h7]; rfl
      have e2 : kids (hmaj l) (harg l) = 0 := by rw [h7]; rfl
      rw [e2] at hb
      simp [seqLen] at hb
      subst hb
      rw [e1] at hi hown
      have := itemLen_take (f + 1) l _ hi (hl l) (by omega)
      rw [this, List.length_take]
      congr 1
      omega
    rw [if_neg h7] at h
    subst h
    have := key (hmaj l) [] rfl (by unfold own; rw [if_neg h23]; exact Nat.le_refl _) ⟨0, by unfold kids; rw [if_neg h4, if_neg h5, if_neg h6]; rfl, by unfold own; rw [if_neg h23]; rfl⟩
    rwa [List.append_nil] at this

/-! ### An item's bytes alone tell whether it is canonical -/
theorem SeqCanon_append {c : List UInt8 → Prop} {one : List UInt8 → Option Nat} (hle : ∀ l n, one l = some n → 1 ≤ n ∧ n ≤ l.length) (h1 : ∀ l r n, one l = some n → one (l ++ r) = some n) (h2 : ∀ l r n, one l = some n → c l → c (l ++ r)) :
    ∀ (k : Nat) (l r : List UInt8), SeqCanon c one k l → SeqCanon c one k (l ++ r)
  | 0, _, _, _ => trivial
  | k + 1, l, r, ⟨a, ha, hc, h⟩ => by
    refine ⟨a, h1 l r a ha, h2 l r a ha hc, ?_⟩
    rw [List.drop_append_of_le_length (hle l a ha).2]
    exact SeqCanon_append hle h1 h2 k _ r h
theorem MapCanon_append {s : Bool} {c : List UInt8 → Prop} {one : List UInt8 → Option Nat} (hle : ∀ l n, one l = some n → 1 ≤ n ∧ n ≤ l.length) (h1 : ∀ l r n, one l = some n → one (l ++ r) = some n) (h2 : ∀ l r n, one l = some n → c l → c (l ++ r)) :
    ∀ (k : Nat) (prev : Option (List UInt8)) (l r : List UInt8), MapCanon s c one k prev l → MapCanon s c one k prev (l ++ r)
  | 0, _, _, _, _ => trivial
  | k + 1, prev, l, r, ⟨a, b, ha, hb, hc, hk, hc2, h⟩ => by
    have la := (hle l a ha).2
    have lb := (hle _ b hb).2
    rw [List.length_drop] at lb
    refine ⟨a, b, h1 l r a ha, ?_, h2 l r a ha hc, ?_, ?_, ?_⟩
    · rw [List.drop_append_of_le_length la]
      exact h1 _ r b hb
    · rw [List.take_append_of_le_length la]
      exact hk
    · rw [List.drop_append_of_le_length la]
      exact h2 _ r b hb hc2
    · rw [List.take_append_of_le_length la, List.drop_append_of_le_length (by omega)]
      exact MapCanon_append hle h1 h2 k _ _ r h
theorem Canon_append {s : Bool} : ∀ (f : Nat) (l r : List UInt8) (n : Nat), itemLen f l = some n → Canon s f l → Canon s f (l ++ r)
  | 0, l, r, n, hi, _ => by simp [itemLen] at hi
  | f + 1, l, r, n, hi, hc => by
    obtain ⟨hok, hown, b, hb, rfl⟩ := itemLen_succ hi
    rw [headOk_iff] at hok
    have hp := hl_pos l
    obtain ⟨e1, e2, e3⟩ := head_append l r (by omega)
    have e4 := harg_append l r hok.2
    obtain ⟨h0, h4, h5, h6⟩ := hc
    refine ⟨by rw [e1, e2, e4]; exact h0, ?_, ?_, ?_⟩
    · rw [e1, e3, e4, List.drop_append_of_le_length hok.2]
      exact fun h => SeqCanon_append (itemLen_le f) (itemLen_append f) (Canon_append f) _ _ r (h4 h)
    · rw [e1, e3, e4, List.drop_append_of_le_length hok.2]
      exact fun h => MapCanon_append (itemLen_le f) (itemLen_append f) (Canon_append f) _ _ _ r (h5 h)
    · rw [e1, e3, List.drop_append_of_le_length hok.2]
      intro h
      rw [h] at hb
      have e : kids 6 (harg l) = 1 := rfl
      rw [e] at hb
      obtain ⟨a', c', ha, _, rfl⟩ := seqLen_succ hb
      exact Canon_append f _ r a' ha (h6 h)

/-! ### What is written is canonical, ties allowed -/
theorem SeqCanon_flatten {f : Nat} {s : Bool} : ∀ os : List (List UInt8), (∀ o ∈ os, itemLen f o = some o.length ∧ Canon s f o) → SeqCanon (Canon s f) (itemLen f) os.length os.flatten
  | [], _ => trivial
  | o :: os, h => by
    obtain ⟨h1, h2⟩ := h o List.mem_cons_self
    rw [List.length_cons, List.flatten_cons]
    refine ⟨o.length, itemLen_append f o _ _ h1, Canon_append f o _ _ h1 h2, ?_⟩
    rw [List.drop_left]
    exact SeqCanon_flatten os fun x hx => h x (List.mem_cons_of_mem _ hx)
theorem MapCanon_flatten {f : Nat} : ∀ (qs : List (List UInt8 × List UInt8)) (prev : Option (List UInt8)), (∀ o ∈ flat qs, itemLen f o = some o.length ∧ Canon false f o) → Asc qs → (∀ p0, prev = some p0 → ∀ q ∈ qs, leB p0 q.1) → MapCanon false (Canon false f) (itemLen f) qs.length prev (flat qs).flatten
  | [], _, _, _, _ => trivial
  | q :: qs, prev, h, ha, hp => by
    obtain ⟨h1, h2⟩ := h q.1 (flat_mem.2 ⟨q, List.mem_cons_self, .inl rfl⟩)
    obtain ⟨h3, h4⟩ := h q.2 (flat_mem.2 ⟨q, List.mem_cons_self, .inr rfl⟩)
    unfold Asc at ha
    rw [List.pairwise_cons] at ha
    rw [List.length_cons, flat_cons, List.flatten_cons, List.flatten_cons]
    refine ⟨q.1.length, q.2.length, itemLen_append f _ _ _ h1, ?_, Canon_append f _ _ _ h1 h2, ?_, ?_, ?_⟩
    · rw [List.drop_left]
      exact itemLen_append f _ _ _ h3
    · rw [List.take_left]
      cases prev with
      | none => exact trivial
      | some p0 =>
        have := hp p0 rfl q List.mem_cons_self
        unfold leB at this
        show _ ∨ _
        by_cases h0 : compareBytes p0 q.1 = 0
        · exact .inr ⟨rfl, h0⟩
        · exact .inl (by omega)
    · rw [List.drop_left]
      exact Canon_append f _ _ _ h3 h4
    · rw [List.take_left, ← List.append_assoc, show q.1.length + q.2.length = (q.1 ++ q.2).length from by rw [List.length_append], List.drop_left]
      refine MapCanon_flatten qs _ (fun o ho => h o ?_) ha.2 ?_
      · obtain ⟨p, hp1, hp2⟩ := flat_mem.1 ho
        exact flat_mem.2 ⟨p, List.mem_cons_of_mem _ hp1, hp2⟩
      · intro p0 e q' hq'
        obtain rfl := Option.some.inj e
        exact ha.1 q' hq'

theorem Enc_canon : ∀ (f : Nat) (l o : List UInt8) (a : Nat), Enc f l o → itemLen f l = some a → Canon false f o
  | 0, l, o, a, h, _ => by simp [Enc] at h
  | f + 1, l, o, a, h, hi => by
    have hwf := Enc_wf (f + 1) l o a h hi
    obtain ⟨hok, hown, b, hb, rfl⟩ := itemLen_succ hi
    have hm := hmaj_lt l
    have hx := harg_lt l
    have key : ∀ (m : Nat) (body : List UInt8), m = hmaj l → (m = 4 → SeqCanon (Canon false f) (itemLen f) (harg l) body) → (m = 5 → MapCanon false (Canon false f) (itemLen f) (harg l) none body) → (m = 6 → Canon false f body) → Canon false (f + 1) (ehead m (harg l) ++ body) := by
      intro m body em k4 k5 k6
      subst em
      obtain ⟨r1, r2, r3, r4, r5⟩ := ehead_reads (hmaj l) (harg l) body hm hx
      refine ⟨.inr (by rw [r3]; exact r5), ?_, ?_, ?_⟩
      · rw [r1, r2, r3, List.drop_left]
        exact k4
      · rw [r1, r2, r3, List.drop_left]
        exact k5
      · rw [r1, r2, List.drop_left]
        exact k6
    have both : ∀ l o a, Enc f l o → itemLen f l = some a → itemLen f o = some o.length ∧ Canon false f o := fun l o a h1 h2 => ⟨Enc_wf f l o a h1 h2, Enc_canon f l o a h1 h2⟩
    rw [Enc] at h
    by_cases h23 : hmaj l = 2 ∨ hmaj l = 3
    · rw [if_pos h23] at h
      rw [h]
      exact key _ _ rfl (fun e => by omega) (fun e => by omega) (fun e => by omega)
    rw [if_neg h23] at h
    by_cases h4 : hmaj l = 4
    · rw [if_pos h4] at h
      obtain ⟨os, h1, rfl⟩ := h
      have hall := SeqEnc.all (P := fun o => itemLen f o = some o.length ∧ Canon false f o) both _ _ _ h1
      have hs := SeqCanon_flatten os hall
      rw [SeqEnc.length _ _ _ h1] at hs
      exact key 4 _ h4.symm (fun _ => hs) (fun e => by omega) (fun e => by omega)
    rw [if_neg h4] at h
    by_cases h5 : hmaj l = 5
    · rw [if_pos h5] at h
      obtain ⟨ps, qs, hpl, h1, hp, hasc, rfl⟩ := h
      have hall := flat_perm_all hp (SeqEnc.all (P := fun o => itemLen f o = some o.length ∧ Canon false f o) both _ _ _ h1)
      have hs := MapCanon_flatten qs none hall hasc (fun _ e => by simp at e)
      rw [hp.length_eq, hpl] at hs
      exact key 5 _ h5.symm (fun e => by omega) (fun _ => hs) (fun e => by omega)
    rw [if_neg h5] at h
    by_cases h6 : hmaj l = 6
    · rw [if_pos h6] at h
      obtain ⟨o1, h1, rfl⟩ := h
      rw [h6] at hb
      have e : kids 6 (harg l) = 1 := rfl
      rw [e] at hb
      obtain ⟨a', c, ha, _, rfl⟩ := seqLen_succ hb
      exact key 6 _ h6.symm (fun e => by omega) (fun e => by omega) (fun _ => Enc_canon f _ o1 a' h1 ha)
    rw [if_neg h6] at h
    by_cases h7 : hmaj l = 7
    · rw [if_pos h7] at h
      subst h
      rw [headOk_iff] at hok
      have hp := hl_pos l
      have e : hmaj (l.take (hl l)) = 7 := by
        have := (head_append (l.take (hl l)) (l.drop (hl l)) (by rw [List.length_take]; omega)).1
        rw [List.take_append_drop] at this
        rw [← this, h7]
      exact ⟨.inl e, fun e2 => by omega, fun e2 => by omega, fun e2 => by omega⟩
    rw [if_neg h7] at h
    subst h
    have := key (hmaj l) [] rfl (fun e => by omega) (fun e => by omega) (fun e => by omega)
    rwa [List.append_nil] at this

end Go.Proofs.Qxb6604654a

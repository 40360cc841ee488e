/-
  Plain: what an item denotes (nf): heads by value, maps as multisets of pairs; what Enc writes denotes the same.
-/
import Derived.Test.Qxb6604654aMath
namespace Go.Proofs.Qxb6604654a

/-- What an item of depth at most f denotes: major type, argument, bytes, parts. -/
def Code : Nat → Type
  | 0 => Unit
  | f + 1 => Nat × Nat × List UInt8 × List (Code f × Code f)

def mkCode {f : Nat} (m x : Nat) (b : List UInt8) (ks : List (Code f × Code f)) : Code (f + 1) := (m, x, b, ks)
theorem mkCode_inj {f m x m2 x2 : Nat} {b b2 : List UInt8} {ks ks2 : List (Code f × Code f)} : mkCode m x b ks = mkCode m2 x2 b2 ks2 ↔ m = m2 ∧ x = x2 ∧ b = b2 ∧ ks = ks2 := by
  show ((m, x, b, ks) : Nat × Nat × List UInt8 × List (Code f × Code f)) = (m2, x2, b2, ks2) ↔ _
  rw [Prod.mk.injEq, Prod.mk.injEq, Prod.mk.injEq]

/-- k items in a row: what each denotes. -/
def seqNf {α : Type} (g : List UInt8 → α) (one : List UInt8 → Option Nat) : Nat → List UInt8 → List α
  | 0, _ => []
  | k + 1, l => match one l with
    | none => []
    | some a => g l :: seqNf g one k (l.drop a)

/-- Two by two. -/
def pairUp {α : Type} : List α → List (α × α)
  | a :: b :: r => (a, b) :: pairUp r
  | _ => []

/-- A choice of one among the lists that are alike but for their order. -/
def Rep (rep : (α : Type) → List α → List α) : Prop := ∀ (α : Type) (l m : List α), rep α l = rep α m ↔ l.Perm m

theorem exists_rep : ∃ rep, Rep rep := by
  refine ⟨fun α l => Classical.choose (Quotient.exists_rep (Quotient.mk (List.isSetoid α) l)), fun α l m => ⟨fun h => ?_, fun h => ?_⟩⟩
  · have h1 := Classical.choose_spec (Quotient.exists_rep (Quotient.mk (List.isSetoid α) l))
    have h2 := Classical.choose_spec (Quotient.exists_rep (Quotient.mk (List.isSetoid α) m))
    dsimp only at h
    rw [h] at h1
    exact Quotient.exact (h1.symm.trans h2)
  · have e : Quotient.mk (List.isSetoid α) l = Quotient.mk (List.isSetoid α) m := Quotient.sound h
    dsimp only
    rw [e]

def nf (rep : (α : Type) → List α → List α) : (f : Nat) → List UInt8 → Code f
  | 0, _ => ()
  | f + 1, l =>
    if hmaj l = 7 then mkCode 7 0 (l.take (hl l)) []
    else if hmaj l = 6 then mkCode 6 (harg l) [] [(nf rep f (l.drop (hl l)), nf rep f (l.drop (hl l)))]
    else if hmaj l = 5 then mkCode 5 (harg l) [] (rep _ (pairUp (seqNf (nf rep f) (itemLen f) (2 * harg l) (l.drop (hl l)))))
    else if hmaj l = 4 then mkCode 4 (harg l) [] ((seqNf (nf rep f) (itemLen f) (harg l) (l.drop (hl l))).map fun t => (t, t))
    else if hmaj l = 2 ∨ hmaj l = 3 then mkCode (hmaj l) (harg l) ((l.drop (hl l)).take (harg l)) []
    else mkCode (hmaj l) (harg l) [] []

variable {rep : (α : Type) → List α → List α} {f : Nat} {l : List UInt8}

theorem nf_7 (h : hmaj l = 7) : nf rep (f + 1) l = mkCode 7 0 (l.take (hl l)) [] := by rw [nf, if_pos h]
theorem nf_6 (h : hmaj l = 6) : nf rep (f + 1) l = mkCode 6 (harg l) [] [(nf rep f (l.drop (hl l)), nf rep f (l.drop (hl l)))] := by rw [nf, if_neg (by omega), if_pos h]
theorem nf_5 (h : hmaj l = 5) : nf rep (f + 1) l = mkCode 5 (harg l) [] (rep _ (pairUp (seqNf (nf rep f) (itemLen f) (2 * harg l) (l.drop (hl l))))) := by rw [nf, if_neg (by omega), if_neg (by omega), if_pos h]
theorem nf_4 (h : hmaj l = 4) : nf rep (f + 1) l = mkCode 4 (harg l) [] ((seqNf (nf rep f) (itemLen f) (harg l) (l.drop (hl l))).map fun t => (t, t)) := by rw [nf, if_neg (by omega), if_neg (by omega), if_neg (by omega), if_pos h]
theorem nf_23 (h : hmaj l = 2 ∨ hmaj l = 3) : nf rep (f + 1) l = mkCode (hmaj l) (harg l) ((l.drop (hl l)).take (harg l)) [] := by rw [nf, if_neg (by omega), if_neg (by omega), if_neg (by omega), if_neg (by omega), if_pos h]
theorem nf_01 (h : hmaj l = 0 ∨ hmaj l = 1) : nf rep (f + 1) l = mkCode (hmaj l) (harg l) [] [] := by rw [nf, if_neg (by omega), if_neg (by omega), if_neg (by omega), if_neg (by omega), if_neg (by omega)]

theorem nf_form : ∃ x b ks, nf rep (f + 1) l = mkCode (hmaj l) x b ks ∧ (hmaj l ≠ 7 → x = harg l) := by
  have hm := hmaj_lt l
  have hd : hmaj l = 7 ∨ hmaj l = 6 ∨ hmaj l = 5 ∨ hmaj l = 4 ∨ (hmaj l = 2 ∨ hmaj l = 3) ∨ (hmaj l = 0 ∨ hmaj l = 1) := by omega
  rcases hd with h | h | h | h | h | h
  · rw [nf_7 h, h]; exact ⟨_, _, _, rfl, fun e => absurd rfl e⟩
  · rw [nf_6 h, h]; exact ⟨_, _, _, rfl, fun _ => rfl⟩
  · rw [nf_5 h, h]; exact ⟨_, _, _, rfl, fun _ => rfl⟩
  · rw [nf_4 h, h]; exact ⟨_, _, _, rfl, fun _ => rfl⟩
  · rw [nf_23 h]; exact ⟨_, _, _, rfl, fun _ => rfl⟩
  · rw [nf_01 h]; exact ⟨_, _, _, rfl, fun _ => rfl⟩

theorem seqNf_succ {α : Type} {g : List UInt8 → α} {one : List UInt8 → Option Nat} {k a : Nat} {l : List UInt8} (h : one l = some a) : seqNf g one (k + 1) l = g l :: seqNf g one k (l.drop a) := by
  rw [seqNf, h]
theorem pairs_succ {α : Type} {g : List UInt8 → α} {one : List UInt8 → Option Nat} {k a b : Nat} {l : List UInt8} (h : one l = some a) (h2 : one (l.drop a) = some b) :
    pairUp (seqNf g one (2 * (k + 1)) l) = (g l, g (l.drop a)) :: pairUp (seqNf g one (2 * k) (l.drop (a + b))) := by
  rw [show 2 * (k + 1) = (2 * k + 1) + 1 from by omega, seqNf_succ h, seqNf_succ h2, List.drop_drop, pairUp]

/-! ### The tests of zzSemEq -/
variable {x y : List UInt8}
theorem nf_ne_maj (h : hmaj x ≠ hmaj y) : ¬ nf rep (f + 1) x = nf rep (f + 1) y := by
  intro e
  obtain ⟨_, _, _, e1, _⟩ := nf_form (rep := rep) (f := f) (l := x)
  obtain ⟨_, _, _, e2, _⟩ := nf_form (rep := rep) (f := f) (l := y)
  rw [e1, e2, mkCode_inj] at e
  exact h e.1
theorem nf_ne_arg (hx : hmaj x ≠ 7) (hy : hmaj y ≠ 7) (h : harg x ≠ harg y) : ¬ nf rep (f + 1) x = nf rep (f + 1) y := by
  intro e
  obtain ⟨_, _, _, e1, q1⟩ := nf_form (rep := rep) (f := f) (l := x)
  obtain ⟨_, _, _, e2, q2⟩ := nf_form (rep := rep) (f := f) (l := y)
  rw [e1, e2, mkCode_inj, q1 hx, q2 hy] at e
  exact h e.2.1
theorem nf_iff7 (hx : hmaj x = 7) (hy : hmaj y = 7) : nf rep (f + 1) x = nf rep (f + 1) y ↔ x.take (hl x) = y.take (hl y) := by
  rw [nf_7 hx, nf_7 hy, mkCode_inj]
  exact ⟨fun h => h.2.2.1, fun h => ⟨rfl, rfl, h, rfl⟩⟩
theorem nf_eq01 (hm : hmaj x = hmaj y) (hx : hmaj y = 0 ∨ hmaj y = 1) (ha : harg x = harg y) : nf rep (f + 1) x = nf rep (f + 1) y := by
  rw [nf_01 (by omega), nf_01 (by omega), hm, ha]
theorem nf_iff23 (hm : hmaj x = hmaj y) (hx : hmaj y = 2 ∨ hmaj y = 3) (ha : harg x = harg y) : nf rep (f + 1) x = nf rep (f + 1) y ↔ (x.drop (hl x)).take (harg x) = (y.drop (hl y)).take (harg y) := by
  rw [nf_23 (by omega), nf_23 (by omega), hm, ha, mkCode_inj]
  exact ⟨fun h => h.2.2.1, fun h => ⟨rfl, rfl, h, rfl⟩⟩
theorem map_twice {α : Type} {l m : List α} : (l.map fun t => (t, t)) = (m.map fun t => (t, t)) ↔ l = m := by
  constructor
  · intro h
    have := congrArg (List.map Prod.fst) h
    simpa [List.map_map, Function.comp_def] using this
  · intro h; rw [h]
theorem nf_iff4 (hx : hmaj x = 4) (hy : hmaj y = 4) (ha : harg x = harg y) :
    nf rep (f + 1) x = nf rep (f + 1) y ↔ seqNf (nf rep f) (itemLen f) (harg x) (x.drop (hl x)) = seqNf (nf rep f) (itemLen f) (harg x) (y.drop (hl y)) := by
  rw [nf_4 hx, nf_4 hy, ← ha, mkCode_inj, map_twice]
  exact ⟨fun h => h.2.2.2, fun h => ⟨rfl, rfl, rfl, h⟩⟩
theorem nf_iff5 (hrep : Rep rep) (hx : hmaj x = 5) (hy : hmaj y = 5) (ha : harg x = harg y) :
    nf rep (f + 1) x = nf rep (f + 1) y ↔ (pairUp (seqNf (nf rep f) (itemLen f) (2 * harg x) (x.drop (hl x)))).Perm (pairUp (seqNf (nf rep f) (itemLen f) (2 * harg x) (y.drop (hl y)))) := by
  rw [nf_5 hx, nf_5 hy, ← ha, ← hrep, mkCode_inj]
  exact ⟨fun h => h.2.2.2, fun h => ⟨rfl, rfl, rfl, h⟩⟩
theorem nf_iff6 (hx : hmaj x = 6) (hy : hmaj y = 6) (ha : harg x = harg y) : nf rep (f + 1) x = nf rep (f + 1) y ↔ nf rep f (x.drop (hl x)) = nf rep f (y.drop (hl y)) := by
  rw [nf_6 hx, nf_6 hy, ← ha, mkCode_inj]
  constructor
  · intro e
    have := e.2.2.2
    simp only [List.cons.injEq, Prod.mk.injEq, and_true, and_self] at this
    exact this
  · intro e; rw [e]; exact ⟨rfl, rfl, rfl, rfl⟩

/-! ### An item's bytes alone tell what it denotes -/
theorem seqNf_append {α : Type} {g : List UInt8 → α} {one : List UInt8 → Option Nat} (hle : ∀ l n, one l = some n → 1 ≤ n ∧ n ≤ l.length) (h1 : ∀ l r n, one l = some n → one (l ++ r) = some n) (h2 : ∀ l r n, one l = some n → g (l ++ r) = g l) :
    ∀ (k : Nat) (l r : List UInt8) (n : Nat), seqLen one k l = some n → seqNf g one k (l ++ r) = seqNf g one k l
  | 0, _, _, _, _ => rfl
  | k + 1, l, r, n, h => by
    obtain ⟨a, b, ha, hb, rfl⟩ := seqLen_succ h
    rw [seqNf_succ (h1 l r a ha), seqNf_succ ha, h2 l r a ha, List.drop_append_of_le_length (hle l a ha).2, seqNf_append hle h1 h2 k _ r b hb]
theorem nf_append (rep : (α : Type) → List α → List α) : ∀ (f : Nat) (l r : List UInt8) (n : Nat), itemLen f l = some n → nf rep f (l ++ r) = nf rep f l
  | 0, l, r, n, hi => by simp [itemLen] at hi
  | f + 1, l, r, n, hi => by
    obtain ⟨hok, hown, b, hb, rfl⟩ := itemLen_succ hi
    rw [headOk_iff] at hok
    have hp := hl_pos l
    have hm := hmaj_lt l
    obtain ⟨e1, e2, e3⟩ := head_append l r (by omega)
    have e4 := harg_append l r hok.2
    have e5 : (l ++ r).drop (hl l) = l.drop (hl l) ++ r := List.drop_append_of_le_length hok.2
    have hd : hmaj l = 7 ∨ hmaj l = 6 ∨ hmaj l = 5 ∨ hmaj l = 4 ∨ (hmaj l = 2 ∨ hmaj l = 3) ∨ (hmaj l = 0 ∨ hmaj l = 1) := by omega
    rcases hd with h | h | h | h | h | h
    · rw [nf_7 h, nf_7 (by rw [e1]; exact h), e3, List.take_append_of_le_length hok.2]
    · rw [nf_6 h, nf_6 (by rw [e1]; exact h), e3, e4, e5]
      rw [h] at hb
      have e : kids 6 (harg l) = 1 := rfl
      rw [e] at hb
      obtain ⟨a', c', ha, _, rfl⟩ := seqLen_succ hb
      rw [nf_append rep f _ r a' ha]
    · rw [nf_5 h, nf_5 (by rw [e1]; exact h), e3, e4, e5]
      rw [h, show kids 5 (harg l) = 2 * harg l from rfl] at hb
      rw [seqNf_append (itemLen_le f) (itemLen_append f) (nf_append rep f) _ _ r b hb]
    · rw [nf_4 h, nf_4 (by rw [e1]; exact h), e3, e4, e5]
      rw [h, show kids 4 (harg l) = harg l from rfl] at hb
      rw [seqNf_append (itemLen_le f) (itemLen_append f) (nf_append rep f) _ _ r b hb]
    · have eo : own (hmaj l) (harg l) = harg l := by unfold own; rw [if_pos h]
      rw [nf_23 h, nf_23 (by rw [e1]; exact h), e1, e3, e4, e5, List.take_append_of_le_length (by rw [List.length_drop]; omega)]
    · rw [nf_01 h, nf_01 (by rw [e1]; exact h), e1, e4]

/-! ### What is written denotes the same -/
theorem seqNf_flatten {α : Type} {g : List UInt8 → α} {f : Nat} (h2 : ∀ l r n, itemLen f l = some n → g (l ++ r) = g l) : ∀ os : List (List UInt8), (∀ o ∈ os, itemLen f o = some o.length) → seqNf g (itemLen f) os.length os.flatten = os.map g
  | [], _ => rfl
  | o :: os, h => by
    have h0 := h o List.mem_cons_self
    have h1 := itemLen_append f o os.flatten _ h0
    rw [List.length_cons, List.flatten_cons, seqNf_succ h1, List.drop_left, h2 _ _ _ h0, seqNf_flatten h2 os fun x hx => h x (List.mem_cons_of_mem _ hx), List.map_cons]
theorem SeqEnc.nf {α : Type} {g : List UInt8 → α} {enc : List UInt8 → List UInt8 → Prop} {one : List UInt8 → Option Nat} (h1 : ∀ l o a, enc l o → one l = some a → g o = g l) : ∀ (k : Nat) (l : List UInt8) (os : List (List UInt8)), SeqEnc enc one k l os → seqNf g one k l = os.map g
  | 0, l, os, h => by simp only [SeqEnc] at h; subst h; rfl
  | k + 1, l, os, h => by
    obtain ⟨a, o, os', e1, e2, e3, rfl⟩ := h
    rw [seqNf_succ e1, List.map_cons, h1 l o a e2 e1, SeqEnc.nf h1 k _ os' e3]
theorem pairUp_flat {α : Type} (g : List UInt8 → α) : ∀ ps : List (List UInt8 × List UInt8), pairUp ((flat ps).map g) = ps.map fun p => (g p.1, g p.2)
  | [] => rfl
  | p :: ps => by rw [flat_cons, List.map_cons, List.map_cons, pairUp, pairUp_flat g ps, List.map_cons]

theorem Enc_nf (hrep : Rep rep) : ∀ (f : Nat) (l o : List UInt8) (a : Nat), Enc f l o → itemLen f l = some a → nf rep f o = nf rep f l
  | 0, l, o, a, h, _ => by simp [Enc] at h
  | f + 1, l, o, a, h, hi => by
    obtain ⟨hok, hown, b, hb, rfl⟩ := itemLen_succ hi
    have hm := hmaj_lt l
    have hx := harg_lt l
    have hd : hmaj l = 7 ∨ hmaj l = 6 ∨ hmaj l = 5 ∨ hmaj l = 4 ∨ (hmaj l = 2 ∨ hmaj l = 3) ∨ (hmaj l = 0 ∨ hmaj l = 1) := by omega
    rw [Enc] at h
    rcases hd with hd | hd | hd | hd | hd | hd
    · rw [if_neg (by omega), if_neg (by omega), if_neg (by omega), if_neg (by omega), if_pos hd] at h
      subst h
      rw [headOk_iff] at hok
      have hp := hl_pos l
      obtain ⟨e1, _, e3⟩ := head_append (l.take (hl l)) (l.drop (hl l)) (by rw [List.length_take]; omega)
      rw [List.take_append_drop] at e1 e3
      rw [nf_7 hd, nf_7 (by rw [← e1]; exact hd), ← e3, List.take_take, Nat.min_self]
    · rw [if_neg (by omega), if_neg (by omega), if_neg (by omega), if_pos hd] at h
      obtain ⟨o1, h1, rfl⟩ := h
      obtain ⟨r1, r2, r3, _, _⟩ := ehead_reads 6 (harg l) o1 (by omega) hx
      rw [nf_6 hd, nf_6 r1, r2, r3, List.drop_left]
      rw [hd] at hb
      have e : kids 6 (harg l) = 1 := rfl
      rw [e] at hb
      obtain ⟨a', c, ha, _, rfl⟩ := seqLen_succ hb
      rw [Enc_nf hrep f _ o1 a' h1 ha]
    · rw [if_neg (by omega), if_neg (by omega), if_pos hd] at h
      obtain ⟨ps, qs, hpl, h1, hp, _, rfl⟩ := h
      obtain ⟨r1, r2, r3, _, _⟩ := ehead_reads 5 (harg l) (flat qs).flatten (by omega) hx
      rw [nf_iff5 hrep r1 hd r3, r2, r3, List.drop_left]
      have hall := flat_perm_all hp (SeqEnc.all (P := fun o => itemLen f o = some o.length) (Enc_wf f) _ _ _ h1)
      have hs := seqNf_flatten (g := nf rep f) (nf_append rep f) (flat qs) hall
      rw [flat_length, hp.length_eq, hpl] at hs
      rw [hs, SeqEnc.nf (g := nf rep f) (Enc_nf hrep f) _ _ _ h1, pairUp_flat, pairUp_flat]
      exact hp.map _
    · rw [if_neg (by omega), if_pos hd] at h
      obtain ⟨os, h1, rfl⟩ := h
      obtain ⟨r1, r2, r3, _, _⟩ := ehead_reads 4 (harg l) os.flatten (by omega) hx
      rw [nf_iff4 r1 hd r3, r2, r3, List.drop_left]
      have hall := SeqEnc.all (P := fun o => itemLen f o = some o.length) (Enc_wf f) _ _ _ h1
      have hs := seqNf_flatten (g := nf rep f) (nf_append rep f) os hall
      rw [SeqEnc.length _ _ _ h1] at hs
      rw [hs, SeqEnc.nf (g := nf rep f) (Enc_nf hrep f) _ _ _ h1]
    · rw [if_pos hd] at h
      subst h
      obtain ⟨r1, r2, r3, _, _⟩ := ehead_reads (hmaj l) (harg l) ((l.drop (hl l)).take (harg l)) hm hx
      have eo : own (hmaj l) (harg l) = harg l := by unfold own; rw [if_pos hd]
      rw [nf_23 hd, nf_23 (by rw [r1]; exact hd), r1, r2, r3, List.drop_left, List.take_take, Nat.min_self]
    · rw [if_neg (by omega), if_neg (by omega), if_neg (by omega), if_neg (by omega), if_neg (by omega)] at h
      subst h
      obtain ⟨r1, r2, r3, _, _⟩ := ehead_reads (hmaj l) (harg l) [] hm hx
      rw [List.append_nil] at r1 r3
      exact nf_eq01 r1 hd r3

end Go.Proofs.Qxb6604654a

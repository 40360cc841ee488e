/-
  zzSemEq at maps: the places of keys and values, the rows that hold them, the matching's relation.
-/
import Derived.Test.Qxb6604654aSemEq
import Derived.Test.Qxb6604654aGreedy
import Derived.Deep.OwnRows
namespace Go.Proofs.Qxb6604654a
open Go.RowKit

/-! ### The places of the keys and values that have been passed -/
def denote (rep : (α : Type) → List α → List α) (f : Nat) (l : List UInt8) (p : Nat × Nat) : Code f × Code f := (nf rep f (l.drop p.1), nf rep f (l.drop p.2))
def allPairs (rep : (α : Type) → List α → List α) (f : Nat) (l : List UInt8) (k x : Nat) : List (Code f × Code f) := pairUp (seqNf (nf rep f) (itemLen f) (2 * x) (l.drop k))

structure Ks (rep : (α : Type) → List α → List α) (f : Nat) (l : List UInt8) (k x j s d : Nat) (K : List (Nat × Nat)) : Prop where
  len : K.length = j
  mid : Mid f (l.drop k) (2 * j) (2 * x - 2 * j) s d
  ok : ∀ p ∈ K, (∃ a, itemLen f (l.drop p.1) = some a) ∧ ∃ b, itemLen f (l.drop p.2) = some b
  eq : allPairs rep f l k x = K.map (denote rep f l) ++ allPairs rep f l (k + s) (x - j)

variable {rep : (α : Type) → List α → List α} {f : Nat} {l : List UInt8} {k x j s d : Nat} {K : List (Nat × Nat)}

theorem Ks.start {c : Nat} (h : seqLen (itemLen f) (2 * x) (l.drop k) = some c) : Ks rep f l k x 0 0 c [] := ⟨rfl, Mid.start h, fun p hp => by simp at hp, rfl⟩
theorem Ks.next (h : Ks rep f l k x j s d K) (hj : j < x) : ∃ a b d', itemLen f (l.drop (k + s)) = some a ∧ itemLen f (l.drop (k + s + a)) = some b ∧ d = a + b + d' ∧ Ks rep f l k x (j + 1) (s + a + b) d' (K ++ [(k + s, k + s + a)]) := by
  have hm := h.mid
  rw [show 2 * x - 2 * j = (2 * x - 2 * j - 1) + 1 from by omega] at hm
  obtain ⟨a, d1, ha, rfl, hM⟩ := hm.next
  rw [show 2 * x - 2 * j - 1 = (2 * x - 2 * (j + 1)) + 1 from by omega] at hM
  obtain ⟨b, d2, hb, rfl, hM2⟩ := hM.next
  rw [List.drop_drop] at ha hb
  rw [← Nat.add_assoc] at hb
  refine ⟨a, b, d2, ha, hb, by omega, by rw [List.length_append, h.len]; rfl, hM2, ?_, ?_⟩
  · intro p hp
    rcases List.mem_append.1 hp with hp | hp
    · exact h.ok p hp
    · rw [List.mem_singleton] at hp
      subst hp
      exact ⟨⟨a, ha⟩, ⟨b, hb⟩⟩
  · have e : allPairs rep f l (k + s) (x - j) = denote rep f l (k + s, k + s + a) :: allPairs rep f l (k + (s + a + b)) (x - (j + 1)) := by
      unfold allPairs denote
      rw [show x - j = (x - (j + 1)) + 1 from by omega, pairs_succ ha (by rw [List.drop_drop]; exact hb), List.drop_drop, List.drop_drop, show k + s + (a + b) = k + (s + a + b) from by omega]
    rw [h.eq, e, List.map_append, List.append_assoc]
    rfl
theorem Ks.done (h : Ks rep f l k x x s d K) : d = 0 ∧ allPairs rep f l k x = K.map (denote rep f l) := by
  have hm := h.mid
  rw [Nat.sub_self] at hm
  refine ⟨hm.done, ?_⟩
  rw [h.eq, Nat.sub_self]
  show _ ++ [] = _
  rw [List.append_nil]
theorem Ks.le (h : Ks rep f l k x j s d K) : s + d ≤ (l.drop k).length := h.mid.le.1
theorem Ks.at (h : Ks rep f l k x j s d K) {i : Nat} (hi : i < j) : (∃ a, itemLen f (l.drop (K.getD i (0, 0)).1) = some a) ∧ ∃ b, itemLen f (l.drop (K.getD i (0, 0)).2) = some b := by
  have hl := h.len
  have e : K.getD i (0, 0) = K[i]'(by omega) := by rw [List.getD, List.getElem?_eq_getElem (by omega)]; rfl
  rw [e]
  exact h.ok _ (List.getElem_mem _)
theorem map_at (g : Nat × Nat → Code f × Code f) {i : Nat} (hi : i < K.length) : (K.map g)[i]? = some (g (K.getD i (0, 0))) := by
  rw [List.getElem?_map, List.getD, List.getElem?_eq_getElem hi]
  rfl

/-! ### The rows that hold the places -/
def row1 (K : List (Nat × Nat)) (i : Nat) : Value := .int .i64 ((K.getD i (0, 0)).1 : Nat)
def row2 (K : List (Nat × Nat)) (i : Nat) : Value := .int .i64 ((K.getD i (0, 0)).2 : Nat)
theorem row1_snoc (K : List (Nat × Nat)) (a b i : Nat) : (if i = K.length then Value.int .i64 (a : Nat) else row1 K i) = row1 (K ++ [(a, b)]) i := by
  unfold row1
  by_cases h : i = K.length
  · subst h
    rw [if_pos rfl, List.getD, List.getElem?_append_right (Nat.le_refl _), Nat.sub_self]
    rfl
  · rw [if_neg h]
    by_cases h2 : i < K.length
    · rw [List.getD, List.getD, List.getElem?_append_left h2]
    · rw [List.getD, List.getD, List.getElem?_eq_none (by omega), List.getElem?_eq_none (by simp; omega)]
theorem row2_snoc (K : List (Nat × Nat)) (a b i : Nat) : (if i = K.length then Value.int .i64 (b : Nat) else row2 K i) = row2 (K ++ [(a, b)]) i := by
  unfold row2
  by_cases h : i = K.length
  · subst h
    rw [if_pos rfl, List.getD, List.getElem?_append_right (Nat.le_refl _), Nat.sub_self]
    rfl
  · rw [if_neg h]
    by_cases h2 : i < K.length
    · rw [List.getD, List.getD, List.getElem?_append_left h2]
    · rw [List.getD, List.getD, List.getElem?_eq_none (by omega), List.getElem?_eq_none (by simp; omega)]

structure Rows4 (w wr : World) (g1 g2 g3 g4 n : Nat) (K1 K2 : List (Nat × Nat)) : Prop where
  below : Below w.heap.size w wr
  b1 : w.heap.size ≤ g1
  b12 : g1 < g2
  b23 : g2 < g3
  b34 : g3 < g4
  r1 : wr.rowIs g1 3 n (row1 K1)
  r2 : wr.rowIs g2 3 n (row2 K1)
  r3 : wr.rowIs g3 3 n (row1 K2)
  r4 : wr.rowIs g4 3 n (row2 K2)

variable {w wr : World} {g1 g2 g3 g4 n : Nat} {K1 K2 : List (Nat × Nat)}

theorem Rows4.start (w : World) (n : Nat) {w4 : World} (h : w4 = (((w.alloc (.cells (madeCells #[.int .i64 0] n) 3)).alloc (.cells (madeCells #[.int .i64 0] n) 3)).alloc (.cells (madeCells #[.int .i64 0] n) 3)).alloc (.cells (madeCells #[.int .i64 0] n) 3)) :
    Rows4 w w4 w.heap.size (w.heap.size + 1) (w.heap.size + 1 + 1) (w.heap.size + 1 + 1 + 1) n [] [] := by
  subst h
  have z1 : ∀ (w : World) (o : Obj), (w.alloc o).heap.size = w.heap.size + 1 := fun w o => by simp
  refine ⟨((((Below.refl _ _).alloc (Nat.le_refl _) _).alloc (by rw [z1]; omega) _).alloc (by rw [z1, z1]; omega) _).alloc (by rw [z1, z1, z1]; omega) _, Nat.le_refl _, by omega, by omega, by omega, ?_, ?_, ?_, ?_⟩
  · exact (((World.rowIs_made w (.int .i64 0) n 3).alloc _).alloc _).alloc _
  · have := ((World.rowIs_made (w.alloc (.cells (madeCells #[.int .i64 0] n) 3)) (.int .i64 0) n 3).alloc (.cells (madeCells #[.int .i64 0] n) 3)).alloc (.cells (madeCells #[.int .i64 0] n) 3)
    rw [z1] at this
    exact this
  · have := (World.rowIs_made ((w.alloc (.cells (madeCells #[.int .i64 0] n) 3)).alloc (.cells (madeCells #[.int .i64 0] n) 3)) (.int .i64 0) n 3).alloc (.cells (madeCells #[.int .i64 0] n) 3)
    rw [z1, z1] at this
    exact this
  · have := World.rowIs_made (((w.alloc (.cells (madeCells #[.int .i64 0] n) 3)).alloc (.cells (madeCells #[.int .i64 0] n) 3)).alloc (.cells (madeCells #[.int .i64 0] n) 3)) (.int .i64 0) n 3
    rw [z1, z1, z1] at this
    exact this

/-- The four stores of a round. -/
theorem Rows4.step (h : Rows4 w wr g1 g2 g3 g4 n K1 K2) {k : Nat} (h1 : K1.length = k) (h2 : K2.length = k) (a b c d : Nat) :
    Rows4 w ((((wr.setCell ⟨g1, k, none⟩ (.int .i64 (a : Nat))).setCell ⟨g2, k, none⟩ (.int .i64 (b : Nat))).setCell ⟨g3, k, none⟩ (.int .i64 (c : Nat))).setCell ⟨g4, k, none⟩ (.int .i64 (d : Nat))) g1 g2 g3 g4 n (K1 ++ [(a, b)]) (K2 ++ [(c, d)]) := by
  have t1 := h.b1
  have t2 := h.b12
  have t3 := h.b23
  have t4 := h.b34
  refine ⟨(((h.below.setCell (p := ⟨g1, k, none⟩) t1 _).setCell (p := ⟨g2, k, none⟩) (by show _ ≤ g2; omega) _).setCell (p := ⟨g3, k, none⟩) (by show _ ≤ g3; omega) _).setCell (p := ⟨g4, k, none⟩) (by show _ ≤ g4; omega) _, t1, t2, t3, t4, ?_, ?_, ?_, ?_⟩
  · refine ((((h.r1.set k (.int .i64 (a : Nat))).setOther (a := ⟨g2, k, none⟩) (by show g1 ≠ g2; omega) _).setOther (a := ⟨g3, k, none⟩) (by show g1 ≠ g3; omega) _).setOther (a := ⟨g4, k, none⟩) (by show g1 ≠ g4; omega) _).congr fun i _ => ?_
    rw [← h1]
    exact row1_snoc K1 a b i
  · refine ((((h.r2.setOther (a := ⟨g1, k, none⟩) (by show g2 ≠ g1; omega) _).set k (.int .i64 (b : Nat))).setOther (a := ⟨g3, k, none⟩) (by show g2 ≠ g3; omega) _).setOther (a := ⟨g4, k, none⟩) (by show g2 ≠ g4; omega) _).congr fun i _ => ?_
    rw [← h1]
    exact row2_snoc K1 a b i
  · refine ((((h.r3.setOther (a := ⟨g1, k, none⟩) (by show g3 ≠ g1; omega) _).setOther (a := ⟨g2, k, none⟩) (by show g3 ≠ g2; omega) _).set k (.int .i64 (c : Nat))).setOther (a := ⟨g4, k, none⟩) (by show g3 ≠ g4; omega) _).congr fun i _ => ?_
    rw [← h2]
    exact row1_snoc K2 c d i
  · refine ((((h.r4.setOther (a := ⟨g1, k, none⟩) (by show g4 ≠ g1; omega) _).setOther (a := ⟨g2, k, none⟩) (by show g4 ≠ g2; omega) _).setOther (a := ⟨g3, k, none⟩) (by show g4 ≠ g3; omega) _).set k (.int .i64 (d : Nat))).congr fun i _ => ?_
    rw [← h2]
    exact row2_snoc K2 c d i

/-- .. and the row of marks. -/
structure Rows5 (w wr : World) (g1 g2 g3 g4 g5 n : Nat) (K1 K2 : List (Nat × Nat)) (u : Nat → Bool) : Prop where
  rows : Rows4 w wr g1 g2 g3 g4 n K1 K2
  b45 : g4 < g5
  r5 : wr.rowIs g5 4 n (fun j => .bool (u j))

variable {g5 : Nat} {u : Nat → Bool}
theorem Rows5.start (h : Rows4 w wr g1 g2 g3 g4 n K1 K2) : Rows5 w (wr.alloc (.cells (madeCells #[.bool false] n) 4)) g1 g2 g3 g4 wr.heap.size n K1 K2 (fun _ => false) :=
  ⟨⟨h.below.alloc h.below.size _, h.b1, h.b12, h.b23, h.b34, h.r1.alloc _, h.r2.alloc _, h.r3.alloc _, h.r4.alloc _⟩, h.r4.lt, World.rowIs_made wr (.bool false) n 4⟩
theorem Rows5.after (h : Rows5 w wr g1 g2 g3 g4 g5 n K1 K2 u) {w' : World} (hb : Below wr.heap.size wr w') : Rows5 w w' g1 g2 g3 g4 g5 n K1 K2 u :=
  ⟨⟨h.rows.below.trans (hb.mono h.rows.below.size), h.rows.b1, h.rows.b12, h.rows.b23, h.rows.b34, h.rows.r1.of_block (hb.block _ h.rows.r1.lt), h.rows.r2.of_block (hb.block _ h.rows.r2.lt), h.rows.r3.of_block (hb.block _ h.rows.r3.lt), h.rows.r4.of_block (hb.block _ h.rows.r4.lt)⟩,
    h.b45, h.r5.of_block (hb.block _ h.r5.lt)⟩
theorem Rows5.drewN (h : Rows5 w wr g1 g2 g3 g4 g5 n K1 K2 u) (q : Nat) : Rows5 w (wr.drewN q) g1 g2 g3 g4 g5 n K1 K2 u := h.after (below_drewN (Below.refl _ _) q)
theorem Rows5.mark (h : Rows5 w wr g1 g2 g3 g4 g5 n K1 K2 u) (j : Nat) : Rows5 w (wr.setCell ⟨g5, j, none⟩ (.bool true)) g1 g2 g3 g4 g5 n K1 K2 (use u j) := by
  have t1 := h.rows.b1
  have t2 := h.rows.b12
  have t3 := h.rows.b23
  have t4 := h.rows.b34
  have t5 := h.b45
  refine ⟨⟨h.rows.below.setCell (p := ⟨g5, j, none⟩) (by show _ ≤ g5; omega) _, t1, t2, t3, t4, h.rows.r1.setOther (a := ⟨g5, j, none⟩) (by show g1 ≠ g5; omega) _, h.rows.r2.setOther (a := ⟨g5, j, none⟩) (by show g2 ≠ g5; omega) _,
    h.rows.r3.setOther (a := ⟨g5, j, none⟩) (by show g3 ≠ g5; omega) _, h.rows.r4.setOther (a := ⟨g5, j, none⟩) (by show g4 ≠ g5; omega) _⟩, t5, (h.r5.set j (.bool true)).congr fun i _ => ?_⟩
  unfold use
  split <;> rfl

/-! ### The matching's inner loop -/
/-- Element i of P looks for its fellow; the first j of Q have been looked at. -/
def Inner {γ : Type} (P Q : List γ) (i j : Nat) (t : Bool) (u : Nat → Bool) : Prop :=
  (t = false → Met P Q i u ∧ ∀ m, m < j → u m = true ∨ Q[m]? ≠ P[i]?) ∧ (t = true → Met P Q (i + 1) u)
section
variable {γ : Type} {P Q : List γ} {i j : Nat}
theorem Inner.start (h : Met P Q i u) : Inner P Q i 0 false u := ⟨fun _ => ⟨h, fun m hm => by omega⟩, fun e => by simp at e⟩
theorem Inner.pass (h : Inner P Q i j false u) (hj : u j = true ∨ Q[j]? ≠ P[i]?) : Inner P Q i (j + 1) false u := by
  obtain ⟨h1, h2⟩ := h.1 rfl
  refine ⟨fun _ => ⟨h1, fun m hm => ?_⟩, fun e => by simp at e⟩
  by_cases e : m = j
  · subst e; exact hj
  · exact h2 m (by omega)
theorem Inner.found (h : Inner P Q i j false u) (hu : u j = false) {c : γ} (hp : P[i]? = some c) (hq : Q[j]? = some c) : Inner P Q i (j + 1) true (use u j) :=
  ⟨fun e => by simp at e, fun _ => (h.1 rfl).1.found hp hq hu⟩
theorem Inner.met (h : Inner P Q i j true u) : Met P Q (i + 1) u := h.2 rfl
theorem Inner.fail (h : Inner P Q i j false u) (hj : Q.length ≤ j) (hi : i < P.length) : ¬ P.Perm Q := by
  obtain ⟨h1, h2⟩ := h.1 rfl
  have hp : P[i]? = some P[i] := List.getElem?_eq_getElem hi
  refine h1.fail hp fun m hm => ?_
  rw [← hp]
  exact h2 m (by omega)
end

end Go.Proofs.Qxb6604654a

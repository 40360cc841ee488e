/-
  Plain: what zzCanonAt asks of an item (Canon).
-/
import Derived.Test.Qxb6604654aEncMk
namespace Go.Proofs.Qxb6604654a
open Go.Lib (compareBytes)

def SeqCanon (c : List UInt8 → Prop) (one : List UInt8 → Option Nat) : Nat → List UInt8 → Prop
  | 0, _ => True
  | k + 1, l => ∃ a, one l = some a ∧ c l ∧ SeqCanon c one k (l.drop a)
/-- The key k may stand behind the key before it. -/
def KeyOk (s : Bool) : Option (List UInt8) → List UInt8 → Prop
  | none, _ => True
  | some p, k => compareBytes p k < 0 ∨ s = false ∧ compareBytes p k = 0
def MapCanon (s : Bool) (c : List UInt8 → Prop) (one : List UInt8 → Option Nat) : Nat → Option (List UInt8) → List UInt8 → Prop
  | 0, _, _ => True
  | k + 1, prev, l => ∃ a b, one l = some a ∧ one (l.drop a) = some b ∧ c l ∧ KeyOk s prev (l.take a) ∧ c (l.drop a) ∧ MapCanon s c one k (some (l.take a)) (l.drop (a + b))
def Canon (s : Bool) : Nat → List UInt8 → Prop
  | 0, _ => False
  | f + 1, l => (hmaj l = 7 ∨ minimal (hinfo l) (harg l) = true) ∧
    (hmaj l = 4 → SeqCanon (Canon s f) (itemLen f) (harg l) (l.drop (hl l))) ∧
    (hmaj l = 5 → MapCanon s (Canon s f) (itemLen f) (harg l) none (l.drop (hl l))) ∧
    (hmaj l = 6 → Canon s f (l.drop (hl l)))

theorem SeqCanon_succ {c : List UInt8 → Prop} {one : List UInt8 → Option Nat} {k : Nat} {l : List UInt8} {a : Nat} (h : one l = some a) : SeqCanon c one (k + 1) l ↔ c l ∧ SeqCanon c one k (l.drop a) := by
  constructor
  · rintro ⟨a', h1, h2, h3⟩
    rw [h] at h1
    obtain rfl := Option.some.inj h1
    exact ⟨h2, h3⟩
  · rintro ⟨h2, h3⟩
    exact ⟨a, h, h2, h3⟩
theorem MapCanon_succ {s : Bool} {c : List UInt8 → Prop} {one : List UInt8 → Option Nat} {k : Nat} {prev : Option (List UInt8)} {l : List UInt8} {a b : Nat} (h : one l = some a) (h' : one (l.drop a) = some b) :
    MapCanon s c one (k + 1) prev l ↔ c l ∧ KeyOk s prev (l.take a) ∧ c (l.drop a) ∧ MapCanon s c one k (some (l.take a)) (l.drop (a + b)) := by
  constructor
  · rintro ⟨a', b', h1, h2, h3⟩
    rw [h] at h1
    obtain rfl := Option.some.inj h1
    rw [h'] at h2
    obtain rfl := Option.some.inj h2
    exact h3
  · intro h3
    exact ⟨a, b, h, h', h3⟩

theorem seq_next {A : Prop} {c : List UInt8 → Prop} {one : List UInt8 → Option Nat} {k i a : Nat} {r : List UInt8} (hF : A ↔ SeqCanon c one (k + 1) (r.drop i)) (h : one (r.drop i) = some a) (hc : c (r.drop i)) : A ↔ SeqCanon c one k (r.drop (i + a)) := by
  rw [hF, SeqCanon_succ h, List.drop_drop]
  exact ⟨fun t => t.2, fun t => ⟨hc, t⟩⟩
theorem seq_fail {A : Prop} {c : List UInt8 → Prop} {one : List UInt8 → Option Nat} {k i a : Nat} {r : List UInt8} (hF : A ↔ SeqCanon c one (k + 1) (r.drop i)) (h : one (r.drop i) = some a) (hc : ¬ c (r.drop i)) : ¬ A := by
  rw [hF, SeqCanon_succ h]
  exact fun t => hc t.1
theorem map_step {A : Prop} {s : Bool} {c : List UInt8 → Prop} {one : List UInt8 → Option Nat} {k i a b : Nat} {prev : Option (List UInt8)} {r : List UInt8} (hF : A ↔ MapCanon s c one (k + 1) prev (r.drop i)) (h : one (r.drop i) = some a) (h' : one (r.drop (i + a)) = some b) :
    A ↔ c (r.drop i) ∧ KeyOk s prev ((r.drop i).take a) ∧ c (r.drop (i + a)) ∧ MapCanon s c one k (some ((r.drop i).take a)) (r.drop (i + a + b)) := by
  rw [← List.drop_drop] at h'
  rw [hF, MapCanon_succ h h', List.drop_drop, List.drop_drop, ← Nat.add_assoc]

end Go.Proofs.Qxb6604654a

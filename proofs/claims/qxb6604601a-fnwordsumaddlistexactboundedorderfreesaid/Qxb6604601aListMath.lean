/-
  The plain arithmetic of the list law: words and limbs of a sum. No Go in sight but the three words' names.
-/
import Derived.Test.Qxb6604601aAdd
namespace Go.Proofs.Qxb6604601a

def psum (f : Nat → Int) : Nat → Int
  | 0 => 0
  | k + 1 => psum f k + f k

/-- The sum of the first k numbers. -/
def tot (H L : Nat → Int) (k : Nat) : Int := psum (fun j => H j * 18446744073709551616 + L j) k
def word0 (t : Int) : Int := t % 18446744073709551616
def word1 (t : Int) : Int := t / 18446744073709551616 % 18446744073709551616
def word2 (t : Int) : Int := t / 18446744073709551616 / 18446744073709551616 % 18446744073709551616

theorem word0_word (t : Int) : Word (word0 t) := by unfold word0; exact ⟨by omega, by omega⟩
theorem word1_word (t : Int) : Word (word1 t) := by unfold word1; exact ⟨by omega, by omega⟩

theorem add_word0 (t hi lo : Int) : sum0 (word0 t) lo = word0 (t + (hi * 18446744073709551616 + lo)) := by
  unfold sum0 word0; omega
theorem add_car0 (t hi lo : Int) : (t + (hi * 18446744073709551616 + lo)) / 18446744073709551616 = t / 18446744073709551616 + hi + car0 (word0 t) lo := by
  unfold car0 word0; omega
theorem add_word1 (t hi lo : Int) : sum1 (word0 t) (word1 t) hi lo = word1 (t + (hi * 18446744073709551616 + lo)) := by
  unfold word1 sum1
  rw [add_car0]
  generalize car0 (word0 t) lo = c
  generalize t / 18446744073709551616 = u
  omega
theorem add_word2 (t hi lo : Int) : sum2 (word0 t) (word1 t) (word2 t) hi lo = word2 (t + (hi * 18446744073709551616 + lo)) := by
  unfold word2 sum2 car1
  rw [add_car0, IntKind.wrap_u64]
  unfold word1
  generalize car0 (word0 t) lo = c
  generalize t / 18446744073709551616 = u
  omega

theorem tot_zero (H L : Nat → Int) : tot H L 0 = 0 := rfl
theorem tot_succ (H L : Nat → Int) (k : Nat) : tot H L (k + 1) = tot H L k + (H k * 18446744073709551616 + L k) := rfl
theorem tot_back (H L : Nat → Int) (n k : Nat) : tot H L n - tot H L k = tot H L n - tot H L (k + 1) + (H k * 18446744073709551616 + L k) := by rw [tot_succ]; omega

/-- The four columns of limbs. -/
def col0 (L : Nat → Int) (k : Nat) : Int := psum (fun j => L j % 4294967296) k
def col1 (L : Nat → Int) (k : Nat) : Int := psum (fun j => L j / 4294967296) k

theorem col0_succ (L : Nat → Int) (k : Nat) : col0 L (k + 1) = col0 L k + L k % 4294967296 := rfl
theorem col1_succ (L : Nat → Int) (k : Nat) : col1 L (k + 1) = col1 L k + L k / 4294967296 := rfl
theorem col0_bd (L : Nat → Int) : ∀ k : Nat, 0 ≤ col0 L k ∧ col0 L k ≤ k * 4294967296
  | 0 => ⟨Int.le_refl _, Int.le_refl _⟩
  | k + 1 => by
    have := col0_bd L k
    rw [col0_succ]
    omega
theorem col1_bd (L : Nat → Int) (n : Nat) (h : ∀ j, j < n → Word (L j)) : ∀ k : Nat, k ≤ n → 0 ≤ col1 L k ∧ col1 L k ≤ k * 4294967296
  | 0, _ => ⟨Int.le_refl _, Int.le_refl _⟩
  | k + 1, hk => by
    have := col1_bd L n h k (by omega)
    have hw := h k (by omega)
    obtain ⟨_, _⟩ := hw
    rw [col1_succ]
    omega
theorem tot_cols (H L : Nat → Int) : ∀ k : Nat, tot H L k = col0 L k + col1 L k * 4294967296 + col0 H k * 18446744073709551616 + col1 H k * 79228162514264337593543950336
  | 0 => rfl
  | k + 1 => by
    have := tot_cols H L k
    rw [tot_succ, col0_succ, col1_succ, col0_succ, col1_succ]
    omega

/-- The carried limbs of the columns are the words of the sum. -/
theorem words_of_cols (t A0 A1 A2 A3 k1 k2 k3 k4 k5 n0 n1 n2 n3 n4 n5 : Int) (ht : t = A0 + A1 * 4294967296 + A2 * 18446744073709551616 + A3 * 79228162514264337593543950336)
    (e1 : A0 / 4294967296 = k1) (e2 : (A1 + k1) / 4294967296 = k2) (e3 : (A2 + k2) / 4294967296 = k3) (e4 : (A3 + k3) / 4294967296 = k4) (e5 : (0 + k4) / 4294967296 = k5)
    (f0 : A0 % 4294967296 = n0) (f1 : (A1 + k1) % 4294967296 = n1) (f2 : (A2 + k2) % 4294967296 = n2) (f3 : (A3 + k3) % 4294967296 = n3) (f4 : (0 + k4) % 4294967296 = n4) (f5 : (0 + k5) % 4294967296 = n5) :
    word0 t = n0 + n1 * 4294967296 ∧ word1 t = n2 + n3 * 4294967296 ∧ word2 t = n4 + n5 * 4294967296 := by
  have h1 : t / 18446744073709551616 = k2 + A2 + A3 * 4294967296 := by omega
  have h2 : t / 18446744073709551616 / 18446744073709551616 = k4 := by rw [h1]; omega
  refine ⟨?_, ?_, ?_⟩
  · unfold word0; omega
  · unfold word1; rw [h1]; omega
  · unfold word2; rw [h2]; omega

theorem tot_lt (H L : Nat → Int) (n : Nat) (hH : ∀ j, j < n → Word (H j)) (hL : ∀ j, j < n → Word (L j)) : ∀ k : Nat, k ≤ n → 0 ≤ tot H L k ∧ tot H L k ≤ k * 340282366920938463463374607431768211455
  | 0, _ => ⟨Int.le_refl _, Int.le_refl _⟩
  | k + 1, hk => by
    have := tot_lt H L n hH hL k (by omega)
    obtain ⟨_, _⟩ := hH k (by omega)
    obtain ⟨_, _⟩ := hL k (by omega)
    rw [tot_succ]
    omega
theorem top_lt (H L : Nat → Int) (n : Nat) (hH : ∀ j, j < n → Word (H j)) (hL : ∀ j, j < n → Word (L j)) (h0 : 0 < n) : word2 (tot H L n) < n := by
  have := tot_lt H L n hH hL n (Nat.le_refl _)
  unfold word2
  have h1 : tot H L n / 18446744073709551616 / 18446744073709551616 < n := by omega
  have h2 : 0 ≤ tot H L n / 18446744073709551616 / 18446744073709551616 := by omega
  omega

end Go.Proofs.Qxb6604601a

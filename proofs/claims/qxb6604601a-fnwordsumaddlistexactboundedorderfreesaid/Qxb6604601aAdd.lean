/-
  wordSum.add and its shim: contracts.
-/
import Derived.Test.Qxb6604601aRows
import Derived.WalkKit
import Derived.WalkSpells
import Derived.BigQuiet
import Derived.Deep.QuietTactic
import Derived.Deep.RegionWith
import Derived.Deep.RegionHeld3
import Derived.Laws.Externs
import Derived.WalkSmall
import Derived.Handy
import Derived.ChangeKeysEq
namespace Go.Proofs.Qxb6604601a
open Go.RowKit

/-- A word. -/
def Word (x : Int) : Prop := 0 ≤ x ∧ x < 18446744073709551616

theorem add64 (x y c : Int) (hx : 0 ≤ x) (hy : 0 ≤ y) (hc0 : 0 ≤ c) (hc : c ≤ 1) (w : World) : (callFunc 26 #[.int .u64 x, .int .u64 y, .int .u64 c]).run Try.prog w =
    .ok (.value (.tuple #[.int .u64 ((x + y + c) % 18446744073709551616), .int .u64 ((x + y + c) / 18446744073709551616)])) w := by
  rw [run_callFunc_extern Try.func26 (by kernel_rfl) (by kernel_rfl) (by kernel_rfl) (e := add64Entry) (by kernel_rfl), run_add64 x y c hx hy hc0 hc]
  rfl
theorem add64_0 (x y : Int) (hx : 0 ≤ x) (hy : 0 ≤ y) (w : World) : (callFunc 26 #[.int .u64 x, .int .u64 y, .int .u64 0]).run Try.prog w =
    .ok (.value (.tuple #[.int .u64 ((x + y) % 18446744073709551616), .int .u64 ((x + y) / 18446744073709551616)])) w := by
  simpa using add64 x y 0 hx hy (Int.le_refl 0) (by decide) w

/-- The three words of s + hi:lo. -/
def sum0 (s0 lo : Int) : Int := (s0 + lo) % 18446744073709551616
def car0 (s0 lo : Int) : Int := (s0 + lo) / 18446744073709551616
def sum1 (s0 s1 hi lo : Int) : Int := (s1 + hi + car0 s0 lo) % 18446744073709551616
def car1 (s0 s1 hi lo : Int) : Int := (s1 + hi + car0 s0 lo) / 18446744073709551616
def sum2 (s0 s1 s2 hi lo : Int) : Int := IntKind.u64.wrap (s2 + car1 s0 s1 hi lo)

theorem car0_le {s0 lo : Int} (h0 : Word s0) (hl : Word lo) : 0 ≤ car0 s0 lo ∧ car0 s0 lo ≤ 1 := by
  unfold car0; obtain ⟨_, _⟩ := h0; obtain ⟨_, _⟩ := hl; omega
theorem car1_le {s0 s1 hi lo : Int} (h0 : Word s0) (h1 : Word s1) (hh : Word hi) (hl : Word lo) : 0 ≤ car1 s0 s1 hi lo ∧ car1 s0 s1 hi lo ≤ 1 := by
  have := car0_le h0 hl
  unfold car1; obtain ⟨_, _⟩ := h1; obtain ⟨_, _⟩ := hh; omega

set_option maxHeartbeats 400000 in
theorem add_any (g : Nat) (s0 s1 s2 hi lo : Int) (h0 : Word s0) (h1 : Word s1) (hh : Word hi) (hl : Word lo) (w : World)
    (c0 : w.cell? ⟨g, 0, none⟩ = some (.int .u64 s0)) (c1 : w.cell? ⟨g, 1, none⟩ = some (.int .u64 s1)) (c2 : w.cell? ⟨g, 2, none⟩ = some (.int .u64 s2)) (hf : ∀ j, w.frozen? ⟨g, j, none⟩ = false) :
    Calls Try.prog 23 #[.pointer (some ⟨g, 0, none⟩), .int .u64 hi, .int .u64 lo] w fun e w' => e = .returned (.tuple #[]) ∧
      w' = (((w.setCell ⟨g, 0, none⟩ (.int .u64 (sum0 s0 lo))).setCell ⟨g, 1, none⟩ (.int .u64 (sum1 s0 s1 hi lo))).setCell ⟨g, 2, none⟩ (.int .u64 (sum2 s0 s1 s2 hi lo))).drew.drew.drew := by
  have e1 : ∀ w, (callFunc 26 #[.int .u64 s0, .int .u64 lo, .int .u64 0]).run Try.prog w = .ok (.value (.tuple #[.int .u64 (sum0 s0 lo), .int .u64 (car0 s0 lo)])) w := fun w => add64_0 s0 lo h0.1 hl.1 w
  have k0 := car0_le h0 hl
  have e2 : ∀ w, (callFunc 26 #[.int .u64 s1, .int .u64 hi, .int .u64 (car0 s0 lo)]).run Try.prog w = .ok (.value (.tuple #[.int .u64 (sum1 s0 s1 hi lo), .int .u64 (car1 s0 s1 hi lo)])) w := fun w => add64 s1 hi (car0 s0 lo) h1.1 hh.1 k0.1 k0.2 w
  have f0 := hf 0
  have f1 := hf 1
  have f2 := hf 2
  clear h0 h1 hh hl k0 hf
  go_enter Try.func23, Try.ntmps23
  go_wp2
  go_region
  all_goals (go_wp2; go_region)
  all_goals (go_wp2; go_region)
  all_goals (go_end0; exact ⟨rfl, rfl⟩)

theorem zzadd_any (s0 s1 s2 hi lo : Int) (h0 : Word s0) (h1 : Word s1) (hh : Word hi) (hl : Word lo) (w : World) :
    Calls Try.prog 9 #[.agg #[.int .u64 s0, .int .u64 s1, .int .u64 s2], .int .u64 hi, .int .u64 lo] w fun e w' =>
      e = .returned (.agg #[.int .u64 (sum0 s0 lo), .int .u64 (sum1 s0 s1 hi lo), .int .u64 (sum2 s0 s1 s2 hi lo)]) ∧ ∃ c1 c2 c3 : Array Value, w' = (((w.alloc (.cells c1 23)).alloc (.cells c2 23)).alloc (.cells c3 48)).drew.drew.drew := by
  go_enter Try.func9, Try.ntmps9
  go_wp2_with fail
  refine (add_any (w.heap.size + 1 + 1) s0 s1 s2 hi lo h0 h1 hh hl _ (by go_cell) (by go_cell) (by go_cell) (by intro j; simp [go_sem])).mono ?_
  rintro e w' ⟨rfl, hw⟩
  subst hw
  go_wp2
  go_returns
  exact ⟨rfl, _, _, _, rfl⟩

/-- The low 32 bits of a word. -/
theorem and32 (x : Int) (h : Word x) : bits .and .u64 x 4294967295 = x % 4294967296 := by
  obtain ⟨a, b⟩ := h
  rw [u64_and x 4294967295 a b (by decide) (by decide)]
  have : (4294967295 : Int).toNat = 2 ^ 32 - 1 := by decide
  rw [this, Nat.and_two_pow_sub_one_eq_mod]
  omega

theorem limbs_any (s0 s1 s2 : Int) (h0 : Word s0) (h1 : Word s1) (h2 : Word s2) (w : World) :
    Calls Try.prog 10 #[.agg #[.int .u64 s0, .int .u64 s1, .int .u64 s2]] w fun e w' =>
      e = .returned (.agg #[.int .u64 (s0 % 4294967296), .int .u64 (s0 / 4294967296), .int .u64 (s1 % 4294967296), .int .u64 (s1 / 4294967296), .int .u64 (s2 % 4294967296), .int .u64 (s2 / 4294967296)]) ∧ ∃ c1 c2 c3 : Array Value, w' = (((w.alloc (.cells c1 23)).alloc (.cells c2 25)).alloc (.cells c3 25)) := by
  have a0 := and32 s0 h0
  have a1 := and32 s1 h1
  have a2 := and32 s2 h2
  go_enter Try.func10, Try.ntmps10
  go_wp2
  refine wp_loop_rounds 4 ?_
  rw [rounds_succ]; go_wp2
  rw [rounds_succ]; go_wp2
  rw [rounds_succ]; go_wp2
  rw [rounds_succ]; go_wp2
  go_returns
  exact ⟨rfl, _, _, _, rfl⟩

/-- A limb sum that is far from a word's end. -/
def Small (x : Int) : Prop := 0 ≤ x ∧ x ≤ 1152921504606846976

theorem Small.word {x : Int} (h : Small x) : Word x := ⟨h.1, by have := h.2; omega⟩

set_option maxHeartbeats 1000000 in
theorem norm_any (l0 l1 l2 l3 l4 l5 k1 k2 k3 k4 k5 : Int) (b0 : Small l0) (b1 : Small l1) (b2 : Small l2) (b3 : Small l3) (b4 : Small l4) (b5 : Small l5)
    (e1 : l0 / 4294967296 = k1) (e2 : (l1 + k1) / 4294967296 = k2) (e3 : (l2 + k2) / 4294967296 = k3) (e4 : (l3 + k3) / 4294967296 = k4) (e5 : (l4 + k4) / 4294967296 = k5) (w : World) :
    Calls Try.prog 12 #[.agg #[.int .u64 l0, .int .u64 l1, .int .u64 l2, .int .u64 l3, .int .u64 l4, .int .u64 l5]] w fun e w' =>
      e = .returned (.agg #[.int .u64 (l0 % 4294967296), .int .u64 ((l1 + k1) % 4294967296), .int .u64 ((l2 + k2) % 4294967296), .int .u64 ((l3 + k3) % 4294967296), .int .u64 ((l4 + k4) % 4294967296), .int .u64 ((l5 + k5) % 4294967296)]) ∧ ∃ c1 c2 : Array Value, w' = ((w.alloc (.cells c1 25)).alloc (.cells c2 25)) := by
  obtain ⟨b0, c0⟩ := b0; obtain ⟨b1, c1⟩ := b1; obtain ⟨b2, c2⟩ := b2; obtain ⟨b3, c3⟩ := b3; obtain ⟨b4, c4⟩ := b4; obtain ⟨b5, c5⟩ := b5
  have d1 : 0 ≤ k1 ∧ k1 ≤ 1073741824 := by omega
  have d2 : 0 ≤ k2 ∧ k2 ≤ 1073741824 := by omega
  have d3 : 0 ≤ k3 ∧ k3 ≤ 1073741824 := by omega
  have d4 : 0 ≤ k4 ∧ k4 ≤ 1073741824 := by omega
  have d5 : 0 ≤ k5 ∧ k5 ≤ 1073741824 := by omega
  obtain ⟨d1, g1⟩ := d1; obtain ⟨d2, g2⟩ := d2; obtain ⟨d3, g3⟩ := d3; obtain ⟨d4, g4⟩ := d4; obtain ⟨d5, g5⟩ := d5
  have a0 := and32 l0 ⟨by omega, by omega⟩
  have a1 := and32 (l1 + k1) ⟨by omega, by omega⟩
  have a2 := and32 (l2 + k2) ⟨by omega, by omega⟩
  have a3 := and32 (l3 + k3) ⟨by omega, by omega⟩
  have a4 := and32 (l4 + k4) ⟨by omega, by omega⟩
  have a5 := and32 (l5 + k5) ⟨by omega, by omega⟩
  go_enter Try.func12, Try.ntmps12
  go_wp2
  refine wp_loop_rounds 7 ?_
  rw [rounds_succ]; go_wp2
  rw [rounds_succ]; go_wp2
  rw [rounds_succ]; go_wp2
  rw [rounds_succ]; go_wp2
  rw [rounds_succ]; go_wp2
  rw [rounds_succ]; go_wp2
  rw [rounds_succ]; go_wp2
  go_returns
  exact ⟨rfl, _, _, rfl⟩

/-- A limb. -/
def Limb (x : Int) : Prop := 0 ≤ x ∧ x < 4294967296
theorem or32 (a b : Int) (ha : Limb a) (hb : Limb b) : bits .or .u64 a (b * 4294967296) = a + b * 4294967296 := by
  obtain ⟨a0, a1⟩ := ha
  obtain ⟨b0, b1⟩ := hb
  rw [u64_or a (b * 4294967296) a0 (by omega) (by omega) (by omega)]
  have e : (b * 4294967296).toNat = b.toNat * 2 ^ 32 := by omega
  rw [Nat.or_comm, e, nat_join 32 (b.toNat * 2 ^ 32) a.toNat (by simp) (by omega)]
  omega

set_option maxHeartbeats 1000000 in
theorem join_any (l0 l1 l2 l3 l4 l5 : Int) (b0 : Limb l0) (b1 : Limb l1) (b2 : Limb l2) (b3 : Limb l3) (b4 : Limb l4) (b5 : Limb l5) (w : World) :
    Calls Try.prog 11 #[.agg #[.int .u64 l0, .int .u64 l1, .int .u64 l2, .int .u64 l3, .int .u64 l4, .int .u64 l5]] w fun e w' =>
      e = .returned (.agg #[.int .u64 (l0 + l1 * 4294967296), .int .u64 (l2 + l3 * 4294967296), .int .u64 (l4 + l5 * 4294967296)]) ∧ ∃ c1 c2 c3 : Array Value, w' = (((w.alloc (.cells c1 25)).alloc (.cells c2 23)).alloc (.cells c3 23)).drew.drew.drew := by
  have o0 := or32 l0 l1 b0 b1
  have o1 := or32 l2 l3 b2 b3
  have o2 := or32 l4 l5 b4 b5
  obtain ⟨b0, c0⟩ := b0; obtain ⟨b1, c1⟩ := b1; obtain ⟨b2, c2⟩ := b2; obtain ⟨b3, c3⟩ := b3; obtain ⟨b4, c4⟩ := b4; obtain ⟨b5, c5⟩ := b5
  go_enter Try.func11, Try.ntmps11
  go_wp2
  refine wp_loop_rounds 4 ?_
  rw [rounds_succ]; go_wp2
  go_region
  go_wp2
  rw [rounds_succ]; go_wp2
  go_region
  go_wp2
  rw [rounds_succ]; go_wp2
  go_region
  go_wp2
  rw [rounds_succ]; go_wp2
  go_returns
  exact ⟨rfl, _, _, _, rfl⟩

theorem Try.cells22 : Try.prog.cellsOf 22 = 1 := by kernel_rfl
/-- Two arrays of three words compared. -/
theorem eql23 (x0 x1 x2 y0 y1 y2 : Int) (w : World) : (Op.equalIn 10000 23 (.agg #[.int .u64 x0, .int .u64 x1, .int .u64 x2]) (.agg #[.int .u64 y0, .int .u64 y1, .int .u64 y2])).run Try.prog w = .ok (x0 == y0 && (x1 == y1 && x2 == y2)) w := by
  obtain ⟨i, hi⟩ := info_of_underlying Try.underlying22
  have e : Op.equalIn 10000 = Op.equalIn (9999 + 1) := rfl
  rw [e, run_equalIn_array w 9999 _ _ Try.underlying23 hi, Try.cells22]
  have e2 : Op.eqItems 9999 = Op.eqItems (9998 + 1) := rfl
  rw [e2]
  simp [List.range_succ, Op.eqItems, go_sem, Try.underlying22]
  by_cases h0 : x0 = y0 <;> by_cases h1 : x1 = y1 <;> by_cases h2 : x2 = y2 <;> simp [h0, h1, h2]
theorem eql23_same (x0 x1 x2 : Int) (w : World) : (Op.equalIn 10000 23 (.agg #[.int .u64 x0, .int .u64 x1, .int .u64 x2]) (.agg #[.int .u64 x0, .int .u64 x1, .int .u64 x2])).run Try.prog w = .ok true w := by
  rw [eql23]; simp

end Go.Proofs.Qxb6604601a

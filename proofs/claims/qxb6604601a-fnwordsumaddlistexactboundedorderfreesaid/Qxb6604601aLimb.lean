/-
  FnWordSumAddMatchesLimbModel: the law's walk.
-/
import Derived.Test.Qxb6604601aAdd
namespace Go.Proofs.Qxb6604601a
open Go.RowKit

theorem limbs_named (s0 s1 s2 x0 x1 x2 x3 x4 x5 : Int) (h0 : Word s0) (h1 : Word s1) (h2 : Word s2) (e0 : Hid (s0 % 4294967296 = x0)) (e1 : Hid (s0 / 4294967296 = x1)) (e2 : Hid (s1 % 4294967296 = x2)) (e3 : Hid (s1 / 4294967296 = x3))
    (e4 : Hid (s2 % 4294967296 = x4)) (e5 : Hid (s2 / 4294967296 = x5)) (w : World) :
    Calls Try.prog 10 #[.agg #[.int .u64 s0, .int .u64 s1, .int .u64 s2]] w fun e w' =>
      e = .returned (.agg #[.int .u64 x0, .int .u64 x1, .int .u64 x2, .int .u64 x3, .int .u64 x4, .int .u64 x5]) ∧ ∃ c1 c2 c3 : Array Value, w' = (((w.alloc (.cells c1 23)).alloc (.cells c2 25)).alloc (.cells c3 25)) := by
  have := limbs_any s0 s1 s2 h0 h1 h2 w
  rw [e0.out, e1.out, e2.out, e3.out, e4.out, e5.out] at this
  exact this

theorem norm_named (l0 l1 l2 l3 l4 l5 k1 k2 k3 k4 k5 n0 n1 n2 n3 n4 n5 : Int) (b0 : Small l0) (b1 : Small l1) (b2 : Small l2) (b3 : Small l3) (b4 : Small l4) (b5 : Small l5)
    (e1 : Hid (l0 / 4294967296 = k1)) (e2 : Hid ((l1 + k1) / 4294967296 = k2)) (e3 : Hid ((l2 + k2) / 4294967296 = k3)) (e4 : Hid ((l3 + k3) / 4294967296 = k4)) (e5 : Hid ((l4 + k4) / 4294967296 = k5))
    (f0 : Hid (l0 % 4294967296 = n0)) (f1 : Hid ((l1 + k1) % 4294967296 = n1)) (f2 : Hid ((l2 + k2) % 4294967296 = n2)) (f3 : Hid ((l3 + k3) % 4294967296 = n3)) (f4 : Hid ((l4 + k4) % 4294967296 = n4)) (f5 : Hid ((l5 + k5) % 4294967296 = n5)) (w : World) :
    Calls Try.prog 12 #[.agg #[.int .u64 l0, .int .u64 l1, .int .u64 l2, .int .u64 l3, .int .u64 l4, .int .u64 l5]] w fun e w' =>
      e = .returned (.agg #[.int .u64 n0, .int .u64 n1, .int .u64 n2, .int .u64 n3, .int .u64 n4, .int .u64 n5]) ∧ ∃ c1 c2 : Array Value, w' = ((w.alloc (.cells c1 25)).alloc (.cells c2 25)) := by
  have := norm_any l0 l1 l2 l3 l4 l5 k1 k2 k3 k4 k5 b0 b1 b2 b3 b4 b5 e1.out e2.out e3.out e4.out e5.out w
  rw [f0.out, f1.out, f2.out, f3.out, f4.out, f5.out] at this
  exact this

theorem limb_mod (x : Int) : Limb (x % 4294967296) := ⟨by omega, by omega⟩
theorem limb_div {x : Int} (h : Word x) : Limb (x / 4294967296) := by obtain ⟨_, _⟩ := h; exact ⟨by omega, by omega⟩

set_option maxHeartbeats 2000000 in
theorem limb_walk (s0 s1 s2 hi lo : Int) (h0 : Word s0) (h1 : Word s1) (h2 : Word s2) (hh : Word hi) (hl : Word lo) (w : World) :
    Calls Try.prog 3 #[.agg #[.int .u64 s0, .int .u64 s1, .int .u64 s2], .int .u64 hi, .int .u64 lo] w fun e w' => e = .returned (.bool true) ∧ Below w.heap.size w w' := by
  obtain ⟨a0, ea0, ba0⟩ : ∃ a, s0 % 4294967296 = a ∧ Limb a := ⟨_, rfl, limb_mod _⟩
  obtain ⟨a1, ea1, ba1⟩ : ∃ a, s0 / 4294967296 = a ∧ Limb a := ⟨_, rfl, limb_div h0⟩
  obtain ⟨a2, ea2, ba2⟩ : ∃ a, s1 % 4294967296 = a ∧ Limb a := ⟨_, rfl, limb_mod _⟩
  obtain ⟨a3, ea3, ba3⟩ : ∃ a, s1 / 4294967296 = a ∧ Limb a := ⟨_, rfl, limb_div h1⟩
  obtain ⟨a4, ea4, ba4⟩ : ∃ a, s2 % 4294967296 = a ∧ Limb a := ⟨_, rfl, limb_mod _⟩
  obtain ⟨a5, ea5, ba5⟩ : ∃ a, s2 / 4294967296 = a ∧ Limb a := ⟨_, rfl, limb_div h2⟩
  obtain ⟨b0, eb0, bb0⟩ : ∃ a, lo % 4294967296 = a ∧ Limb a := ⟨_, rfl, limb_mod _⟩
  obtain ⟨b1, eb1, bb1⟩ : ∃ a, lo / 4294967296 = a ∧ Limb a := ⟨_, rfl, limb_div hl⟩
  obtain ⟨b2, eb2, bb2⟩ : ∃ a, hi % 4294967296 = a ∧ Limb a := ⟨_, rfl, limb_mod _⟩
  obtain ⟨b3, eb3, bb3⟩ : ∃ a, hi / 4294967296 = a ∧ Limb a := ⟨_, rfl, limb_div hh⟩
  obtain ⟨k1, ek1⟩ : ∃ k, (a0 + b0) / 4294967296 = k := ⟨_, rfl⟩
  obtain ⟨k2, ek2⟩ : ∃ k, (a1 + b1 + k1) / 4294967296 = k := ⟨_, rfl⟩
  obtain ⟨k3, ek3⟩ : ∃ k, (a2 + b2 + k2) / 4294967296 = k := ⟨_, rfl⟩
  obtain ⟨k4, ek4⟩ : ∃ k, (a3 + b3 + k3) / 4294967296 = k := ⟨_, rfl⟩
  obtain ⟨k5, ek5⟩ : ∃ k, (a4 + k4) / 4294967296 = k := ⟨_, rfl⟩
  obtain ⟨n0, en0, bn0⟩ : ∃ n, (a0 + b0) % 4294967296 = n ∧ Limb n := ⟨_, rfl, limb_mod _⟩
  obtain ⟨n1, en1, bn1⟩ : ∃ n, (a1 + b1 + k1) % 4294967296 = n ∧ Limb n := ⟨_, rfl, limb_mod _⟩
  obtain ⟨n2, en2, bn2⟩ : ∃ n, (a2 + b2 + k2) % 4294967296 = n ∧ Limb n := ⟨_, rfl, limb_mod _⟩
  obtain ⟨n3, en3, bn3⟩ : ∃ n, (a3 + b3 + k3) % 4294967296 = n ∧ Limb n := ⟨_, rfl, limb_mod _⟩
  obtain ⟨n4, en4, bn4⟩ : ∃ n, (a4 + k4) % 4294967296 = n ∧ Limb n := ⟨_, rfl, limb_mod _⟩
  obtain ⟨n5, en5, bn5⟩ : ∃ n, (a5 + k5) % 4294967296 = n ∧ Limb n := ⟨_, rfl, limb_mod _⟩
  have q0 : sum0 s0 lo = n0 + n1 * 4294967296 := by
    unfold sum0; obtain ⟨_, _⟩ := h0; obtain ⟨_, _⟩ := hl; omega
  have qc0 : car0 s0 lo = k2 := by
    unfold car0; obtain ⟨_, _⟩ := h0; obtain ⟨_, _⟩ := hl; omega
  have q1 : sum1 s0 s1 hi lo = n2 + n3 * 4294967296 := by
    unfold sum1; rw [qc0]; obtain ⟨_, _⟩ := h1; obtain ⟨_, _⟩ := hh; omega
  have qc1 : car1 s0 s1 hi lo = k4 := by
    unfold car1; rw [qc0]; obtain ⟨_, _⟩ := h1; obtain ⟨_, _⟩ := hh; omega
  have q2 : sum2 s0 s1 s2 hi lo = n4 + n5 * 4294967296 := by
    unfold sum2; rw [qc1, IntKind.wrap_u64]; obtain ⟨_, _⟩ := h2; omega
  clear qc0 qc1
  have Ha0 : Hid _ := ea0; have Ha1 : Hid _ := ea1; have Ha2 : Hid _ := ea2; have Ha3 : Hid _ := ea3; have Ha4 : Hid _ := ea4; have Ha5 : Hid _ := ea5
  have Hb0 : Hid _ := eb0; have Hb1 : Hid _ := eb1; have Hb2 : Hid _ := eb2; have Hb3 : Hid _ := eb3
  have Hk1 : Hid _ := ek1; have Hk2 : Hid _ := ek2; have Hk3 : Hid _ := ek3; have Hk4 : Hid _ := ek4; have Hk5 : Hid _ := ek5
  have Hn0 : Hid _ := en0; have Hn1 : Hid _ := en1; have Hn2 : Hid _ := en2; have Hn3 : Hid _ := en3; have Hn4 : Hid _ := en4; have Hn5 : Hid _ := en5
  clear ea0 ea1 ea2 ea3 ea4 ea5 eb0 eb1 eb2 eb3 ek1 ek2 ek3 ek4 ek5 en0 en1 en2 en3 en4 en5
  go_enter Try.func3, Try.ntmps3
  go_wp2_with fail
  refine (zzadd_any s0 s1 s2 hi lo h0 h1 hh hl _).mono ?_
  rintro e w' ⟨rfl, c1, c2, c3, rfl⟩
  rw [q0, q1, q2]
  clear q0 q1 q2
  go_wp2_with fail
  refine (limbs_named s0 s1 s2 a0 a1 a2 a3 a4 a5 h0 h1 h2 Ha0 Ha1 Ha2 Ha3 Ha4 Ha5 _).mono ?_
  rintro e w' ⟨rfl, c4, c5, c6, rfl⟩
  go_wp2_with fail
  refine (limbs_named lo hi 0 b0 b1 b2 b3 0 0 hl hh ⟨by decide, by decide⟩ Hb0 Hb1 Hb2 Hb3 rfl rfl _).mono ?_
  rintro e w' ⟨rfl, c7, c8, c9, rfl⟩
  go_wp2
  refine wp_loop_rounds 7 ?_
  have x0 : 0 ≤ a0 ∧ a0 < 4294967296 := ba0
  have y0 : 0 ≤ b0 ∧ b0 < 4294967296 := bb0
  have x1 : 0 ≤ a1 ∧ a1 < 4294967296 := ba1
  have y1 : 0 ≤ b1 ∧ b1 < 4294967296 := bb1
  have x2 : 0 ≤ a2 ∧ a2 < 4294967296 := ba2
  have y2 : 0 ≤ b2 ∧ b2 < 4294967296 := bb2
  have x3 : 0 ≤ a3 ∧ a3 < 4294967296 := ba3
  have y3 : 0 ≤ b3 ∧ b3 < 4294967296 := bb3
  have x4 : 0 ≤ a4 ∧ a4 < 4294967296 := ba4
  have x5 : 0 ≤ a5 ∧ a5 < 4294967296 := ba5
  clear ba0 ba1 ba2 ba3 ba4 ba5 bb0 bb1 bb2 bb3 h0 h1 h2 hh hl Ha0 Ha1 Ha2 Ha3 Ha4 Ha5 Hb0 Hb1 Hb2 Hb3
  iterate 6 (rw [rounds_succ]; go_wp2; go_region; go_wp2)
  rw [rounds_succ]; go_wp2
  have z0 : Small (a0 + b0) := ⟨by omega, by omega⟩
  have z1 : Small (a1 + b1) := ⟨by omega, by omega⟩
  have z2 : Small (a2 + b2) := ⟨by omega, by omega⟩
  have z3 : Small (a3 + b3) := ⟨by omega, by omega⟩
  have z4 : Small a4 := ⟨by omega, by omega⟩
  have z5 : Small a5 := ⟨by omega, by omega⟩
  clear x0 x1 x2 x3 x4 x5 y0 y1 y2 y3
  have hsame := eql23_same (n0 + n1 * 4294967296) (n2 + n3 * 4294967296) (n4 + n5 * 4294967296)
  go_region_held3 (fun w' => w'.cell? ⟨w.heap.size + 1 + 1 + 1 + 1, 0, none⟩ = some (.int .u64 (n0 + n1 * 4294967296)) ∧ w'.cell? ⟨w.heap.size + 1 + 1 + 1 + 1, 1, none⟩ = some (.int .u64 (n2 + n3 * 4294967296)) ∧ w'.cell? ⟨w.heap.size + 1 + 1 + 1 + 1, 2, none⟩ = some (.int .u64 (n4 + n5 * 4294967296)) ∧
      w'.cell? ⟨w.heap.size + 1 + 1 + 1 + 1 + 1 + 1 + 1 + 1 + 1 + 1 + 1 + 1 + 1, 0, none⟩ = some (.int .u64 (a0 + b0)) ∧ w'.cell? ⟨w.heap.size + 1 + 1 + 1 + 1 + 1 + 1 + 1 + 1 + 1 + 1 + 1 + 1 + 1, 1, none⟩ = some (.int .u64 (a1 + b1)) ∧ w'.cell? ⟨w.heap.size + 1 + 1 + 1 + 1 + 1 + 1 + 1 + 1 + 1 + 1 + 1 + 1 + 1, 2, none⟩ = some (.int .u64 (a2 + b2)) ∧ w'.cell? ⟨w.heap.size + 1 + 1 + 1 + 1 + 1 + 1 + 1 + 1 + 1 + 1 + 1 + 1 + 1, 3, none⟩ = some (.int .u64 (a3 + b3)) ∧
      w'.cell? ⟨w.heap.size + 1 + 1 + 1 + 1 + 1 + 1 + 1 + 1 + 1 + 1 + 1 + 1 + 1, 4, none⟩ = some (.int .u64 a4) ∧ w'.cell? ⟨w.heap.size + 1 + 1 + 1 + 1 + 1 + 1 + 1 + 1 + 1 + 1 + 1 + 1 + 1, 5, none⟩ = some (.int .u64 a5)) (simp [go_sem, World.cell?_alloc_past])
    (first
      | (go_at_call 12; refine (norm_named (a0 + b0) (a1 + b1) (a2 + b2) (a3 + b3) a4 a5 k1 k2 k3 k4 k5 n0 n1 n2 n3 n4 n5 z0 z1 z2 z3 z4 z5 Hk1 Hk2 Hk3 Hk4 Hk5 Hn0 Hn1 Hn2 Hn3 Hn4 Hn5 _).mono ?_; rintro e w' ⟨rfl, c10, c11, rfl⟩)
      | (go_at_call 11; refine (join_any n0 n1 n2 n3 n4 n5 bn0 bn1 bn2 bn3 bn4 bn5 _).mono ?_; rintro e w' ⟨rfl, c12, c13, c14, rfl⟩))
  go_wp2
  go_ret
  exact ⟨rfl, by go_grown⟩

end Go.Proofs.Qxb6604601a

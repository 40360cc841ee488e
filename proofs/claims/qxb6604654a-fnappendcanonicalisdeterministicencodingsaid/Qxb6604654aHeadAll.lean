/-
  head: the contract.
-/
import Derived.Test.Qxb6604654aBig
import Derived.Deep.RegionHeld3
namespace Go.Proofs.Qxb6604654a
open Go.RowKit

theorem uint16_below {W : World} (ao : Option Addr) (n cap : Nat) (l : List UInt8) (h : BytesAt W ao n l) (hn : 2 ≤ n) (w0 : World) (hw0 : Below W.heap.size W w0) :
    Calls Try.prog 29 #[.agg #[], .slice ao n cap] w0 fun e w' => e = .returned (.int .u16 (be l 0 2 : Nat)) ∧ Below W.heap.size W w' := by
  refine (uint16_any _ n cap _ w0 (h.mono hw0) hn).mono ?_
  rintro e w' ⟨rfl, q, rfl⟩
  exact ⟨rfl, below_drewN (hw0.alloc hw0.size _) q⟩

theorem uint32_below {W : World} (ao : Option Addr) (n cap : Nat) (l : List UInt8) (h : BytesAt W ao n l) (hn : 4 ≤ n) (w0 : World) (hw0 : Below W.heap.size W w0) :
    Calls Try.prog 30 #[.agg #[], .slice ao n cap] w0 fun e w' => e = .returned (.int .u32 (be l 0 4 : Nat)) ∧ Below W.heap.size W w' := by
  refine (uint32_any _ n cap _ w0 (h.mono hw0) hn).mono ?_
  rintro e w' ⟨rfl, q, rfl⟩
  exact ⟨rfl, below_drewN (hw0.alloc hw0.size _) q⟩

theorem uint64_below {W : World} (ao : Option Addr) (n cap : Nat) (l : List UInt8) (h : BytesAt W ao n l) (hn : 8 ≤ n) (w0 : World) (hw0 : Below W.heap.size W w0) :
    Calls Try.prog 31 #[.agg #[], .slice ao n cap] w0 fun e w' => e = .returned (.int .u64 (be l 0 8 : Nat)) ∧ Below W.heap.size W w' := by
  refine (uint64_any _ n cap _ w0 (h.mono hw0) hn).mono ?_
  rintro e w' ⟨rfl, q, rfl⟩
  exact ⟨rfl, below_drewN (hw0.alloc hw0.size _) q⟩

set_option maxHeartbeats 400000 in
theorem head_25 (b off : Nat) (n cap x y : Nat) (w : World) (c0 : w.cell? ⟨b, off, none⟩ = some (.int .u8 (x : Nat))) (hb : x < 256) (hy : y < 65536) (hn0 : 3 ≤ n) (hcap : n ≤ cap) (hs : x % 32 = 25)
    (HU : Hid (∀ w0, Below w.heap.size w w0 → Calls Try.prog 29 #[.agg #[], .slice (some ⟨b, off + 1, none⟩) (n - 1) (cap - 1)] w0 fun e w' => e = .returned (.int .u16 (y : Nat)) ∧ Below w.heap.size w w')) :
    Calls Try.prog 26 #[.slice (some ⟨b, off, none⟩) n cap] w fun e w' => e = .returned (.tuple #[.int .u8 (x / 32 : Nat), .int .u64 (y : Nat), .slice (cutAt (some ⟨b, off, none⟩) cap 3) (n - 3) (cap - 3)]) ∧ Below w.heap.size w w' := by
  have hwy : Hid _ := IntWalk.u64_in (y : Int) ⟨by omega, by omega⟩
  have ha := and31 x (by omega) (by omega)
  have e25 : ((x : Int) % 32) = 25 := by omega
  have i3 : (3 : Int) ≤ n := by omega
  have i1 : (1 : Int) ≤ n := by omega
  have i0 : (0 : Int) < n := by omega
  have h1 : ¬ cap = 1 := by omega
  by_cases h3 : cap = 3
  · obtain rfl : n = 3 := by omega
    subst h3
    rw [cutAt_end]
    go_enter Try.func26, Try.ntmps26
    go_wp2
    go_region_held3 (fun w' => Below w.heap.size w w') (first | (exact Below.refl _ _) | assumption | (go_grown)) (first | (go_at_call 29; refine (HU.out _ ?_).mono ?_; (first | assumption | (exact Below.refl _ _)); rintro e w' ⟨rfl, hb2⟩))
    go_wp2
    go_ret3
    exact ⟨by rw [hwy.out]; rfl, hb2⟩
  · rw [cutAt_some h3]
    go_enter Try.func26, Try.ntmps26
    go_wp2
    go_region_held3 (fun w' => Below w.heap.size w w') (first | (exact Below.refl _ _) | assumption | (go_grown)) (first | (go_at_call 29; refine (HU.out _ ?_).mono ?_; (first | assumption | (exact Below.refl _ _)); rintro e w' ⟨rfl, hb2⟩))
    go_wp2
    go_ret3
    exact ⟨by rw [hwy.out]; rfl, hb2⟩

set_option maxHeartbeats 400000 in
theorem head_26 (b off : Nat) (n cap x y : Nat) (w : World) (c0 : w.cell? ⟨b, off, none⟩ = some (.int .u8 (x : Nat))) (hb : x < 256) (hy : y < 4294967296) (hn0 : 5 ≤ n) (hcap : n ≤ cap) (hs : x % 32 = 26)
    (HU : Hid (∀ w0, Below w.heap.size w w0 → Calls Try.prog 30 #[.agg #[], .slice (some ⟨b, off + 1, none⟩) (n - 1) (cap - 1)] w0 fun e w' => e = .returned (.int .u32 (y : Nat)) ∧ Below w.heap.size w w')) :
    Calls Try.prog 26 #[.slice (some ⟨b, off, none⟩) n cap] w fun e w' => e = .returned (.tuple #[.int .u8 (x / 32 : Nat), .int .u64 (y : Nat), .slice (cutAt (some ⟨b, off, none⟩) cap 5) (n - 5) (cap - 5)]) ∧ Below w.heap.size w w' := by
  have hwy : Hid _ := IntWalk.u64_in (y : Int) ⟨by omega, by omega⟩
  have ha := and31 x (by omega) (by omega)
  have e25 : ((x : Int) % 32) = 26 := by omega
  have i3 : (5 : Int) ≤ n := by omega
  have i1 : (1 : Int) ≤ n := by omega
  have i0 : (0 : Int) < n := by omega
  have h1 : ¬ cap = 1 := by omega
  by_cases h3 : cap = 5
  · obtain rfl : n = 5 := by omega
    subst h3
    rw [cutAt_end]
    go_enter Try.func26, Try.ntmps26
    go_wp2
    go_region_held3 (fun w' => Below w.heap.size w w') (first | (exact Below.refl _ _) | assumption | (go_grown)) (first | (go_at_call 30; refine (HU.out _ ?_).mono ?_; (first | assumption | (exact Below.refl _ _)); rintro e w' ⟨rfl, hb2⟩))
    go_wp2
    go_ret3
    exact ⟨by rw [hwy.out]; rfl, hb2⟩
  · rw [cutAt_some h3]
    go_enter Try.func26, Try.ntmps26
    go_wp2
    go_region_held3 (fun w' => Below w.heap.size w w') (first | (exact Below.refl _ _) | assumption | (go_grown)) (first | (go_at_call 30; refine (HU.out _ ?_).mono ?_; (first | assumption | (exact Below.refl _ _)); rintro e w' ⟨rfl, hb2⟩))
    go_wp2
    go_ret3
    exact ⟨by rw [hwy.out]; rfl, hb2⟩

set_option maxHeartbeats 400000 in
theorem head_27 (b off : Nat) (n cap x y : Nat) (w : World) (c0 : w.cell? ⟨b, off, none⟩ = some (.int .u8 (x : Nat))) (hb : x < 256) (hy : y < 18446744073709551616) (hn0 : 9 ≤ n) (hcap : n ≤ cap) (hs : x % 32 = 27)
    (HU : Hid (∀ w0, Below w.heap.size w w0 → Calls Try.prog 31 #[.agg #[], .slice (some ⟨b, off + 1, none⟩) (n - 1) (cap - 1)] w0 fun e w' => e = .returned (.int .u64 (y : Nat)) ∧ Below w.heap.size w w')) :
    Calls Try.prog 26 #[.slice (some ⟨b, off, none⟩) n cap] w fun e w' => e = .returned (.tuple #[.int .u8 (x / 32 : Nat), .int .u64 (y : Nat), .slice (cutAt (some ⟨b, off, none⟩) cap 9) (n - 9) (cap - 9)]) ∧ Below w.heap.size w w' := by
  have hwy : Hid _ := IntWalk.u64_in (y : Int) ⟨by omega, by omega⟩
  have ha := and31 x (by omega) (by omega)
  have e25 : ((x : Int) % 32) = 27 := by omega
  have i3 : (9 : Int) ≤ n := by omega
  have i1 : (1 : Int) ≤ n := by omega
  have i0 : (0 : Int) < n := by omega
  have h1 : ¬ cap = 1 := by omega
  by_cases h3 : cap = 9
  · obtain rfl : n = 9 := by omega
    subst h3
    rw [cutAt_end]
    go_enter Try.func26, Try.ntmps26
    go_wp2
    go_region_held3 (fun w' => Below w.heap.size w w') (first | (exact Below.refl _ _) | assumption | (go_grown)) (first | (go_at_call 31; refine (HU.out _ ?_).mono ?_; (first | assumption | (exact Below.refl _ _)); rintro e w' ⟨rfl, hb2⟩))
    go_wp2
    go_ret3
    exact ⟨by have := hwy; rfl, hb2⟩
  · rw [cutAt_some h3]
    go_enter Try.func26, Try.ntmps26
    go_wp2
    go_region_held3 (fun w' => Below w.heap.size w w') (first | (exact Below.refl _ _) | assumption | (go_grown)) (first | (go_at_call 31; refine (HU.out _ ?_).mono ?_; (first | assumption | (exact Below.refl _ _)); rintro e w' ⟨rfl, hb2⟩))
    go_wp2
    go_ret3
    exact ⟨by have := hwy; rfl, hb2⟩

set_option maxHeartbeats 400000 in
theorem head_24 (b off : Nat) (n cap x y : Nat) (w : World) (c0 : w.cell? ⟨b, off, none⟩ = some (.int .u8 (x : Nat))) (c1 : w.cell? ⟨b, off + 1, none⟩ = some (.int .u8 (y : Nat))) (hb : x < 256) (hy : y < 256) (hn0 : 2 ≤ n) (hcap : n ≤ cap) (hs : x % 32 = 24) :
    Calls Try.prog 26 #[.slice (some ⟨b, off, none⟩) n cap] w fun e w' => e = .returned (.tuple #[.int .u8 (x / 32 : Nat), .int .u64 (y : Nat), .slice (cutAt (some ⟨b, off, none⟩) cap 2) (n - 2) (cap - 2)]) ∧ Below w.heap.size w w' := by
  have ha := and31 x (by omega) (by omega)
  have e25 : ((x : Int) % 32) = 24 := by omega
  have i3 : (2 : Int) ≤ n := by omega
  have i1 : (1 : Int) < n := by omega
  have i0 : (0 : Int) < n := by omega
  by_cases h3 : cap = 2
  · obtain rfl : n = 2 := by omega
    subst h3
    rw [cutAt_end]
    go_enter Try.func26, Try.ntmps26
    go_wp2
    go_quiet (fail)
    go_wp2
    go_ret3
    exact ⟨rfl, below_drewN (Below.refl _ _) _⟩
  · rw [cutAt_some h3]
    go_enter Try.func26, Try.ntmps26
    go_wp2
    go_quiet (fail)
    go_wp2
    go_ret3
    exact ⟨rfl, below_drewN (Below.refl _ _) _⟩

theorem head_any (ao : Option Addr) (n cap : Nat) (l : List UInt8) (w : World) (h : BytesAt w ao n l) (hcap : n ≤ cap) (hok : headOk l = true) :
    Calls Try.prog 26 #[.slice ao n cap] w fun e w' => e = .returned (.tuple #[.int .u8 (hmaj l : Nat), .int .u64 (harg l : Nat), .slice (cutAt ao cap (hl l)) (n - hl l) (cap - hl l)]) ∧ Below w.heap.size w w' := by
  rw [headOk_iff] at hok
  obtain ⟨h27, hle⟩ := hok
  have hlen := h.len
  have hp := hl_pos l
  obtain ⟨b, off, rfl, hc⟩ := h.cells (by omega)
  have hb := nb_lt l 0
  by_cases hs : hinfo l < 24
  · have e1 : hl l = 1 := by unfold hl wide; rw [if_pos hs]
    have e2 : harg l = hinfo l := by unfold harg; rw [if_pos hs]
    rw [e1, e2]
    refine (head_small _ n cap l w h (by omega) hcap (by rw [byteAt_nb]; unfold hinfo at hs; omega)).mono ?_
    rintro e w' ⟨rfl, q, rfl⟩
    refine ⟨?_, below_drewN (Below.refl _ _) q⟩
    rw [byteAt_nb]
    unfold hmaj hinfo
    rfl
  have hs' : hinfo l = 24 ∨ hinfo l = 25 ∨ hinfo l = 26 ∨ hinfo l = 27 := by omega
  have c0 := hc 0 (by omega)
  rw [Nat.add_zero, byteAt_nb] at c0
  have hcut := fun h2 : 2 ≤ n => h.cut hcap 1 (by omega)
  rcases hs' with hs' | hs' | hs' | hs'
  · have e1 : hl l = 2 := by unfold hl wide; rw [hs']; rfl
    have e2 : harg l = nb l 1 := by unfold harg wide; rw [hs']; simp [be]
    have c1 := hc 1 (by omega)
    rw [byteAt_nb] at c1
    rw [e1, e2]
    exact head_24 b off n cap _ _ w c0 c1 hb (nb_lt l 1) (by omega) hcap hs'
  · have e1 : hl l = 3 := by unfold hl wide; rw [hs']; rfl
    have e2 : harg l = be l 1 2 := by unfold harg wide; rw [hs']; rfl
    rw [e1, e2]
    have hcc := hcut (by omega)
    rw [cutAt_some (by omega)] at hcc
    refine head_25 b off n cap _ _ w c0 hb (be_lt l 1 2) (by omega) hcap hs' ?_
    intro w0 hw0
    have := uint16_below _ (n - 1) (cap - 1) _ hcc (by omega) w0 hw0
    rw [be_drop] at this
    exact this
  · have e1 : hl l = 5 := by unfold hl wide; rw [hs']; rfl
    have e2 : harg l = be l 1 4 := by unfold harg wide; rw [hs']; rfl
    rw [e1, e2]
    have hcc := hcut (by omega)
    rw [cutAt_some (by omega)] at hcc
    refine head_26 b off n cap _ _ w c0 hb (be_lt l 1 4) (by omega) hcap hs' ?_
    intro w0 hw0
    have := uint32_below _ (n - 1) (cap - 1) _ hcc (by omega) w0 hw0
    rw [be_drop] at this
    exact this
  · have e1 : hl l = 9 := by unfold hl wide; rw [hs']; rfl
    have e2 : harg l = be l 1 8 := by unfold harg wide; rw [hs']; rfl
    rw [e1, e2]
    have hcc := hcut (by omega)
    rw [cutAt_some (by omega)] at hcc
    refine head_27 b off n cap _ _ w c0 hb (be_lt l 1 8) (by omega) hcap hs' ?_
    intro w0 hw0
    have := uint64_below _ (n - 1) (cap - 1) _ hcc (by omega) w0 hw0
    rw [be_drop] at this
    exact this

end Go.Proofs.Qxb6604654a

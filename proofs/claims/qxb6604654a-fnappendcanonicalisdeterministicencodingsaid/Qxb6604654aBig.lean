/-
  encoding/binary's BigEndian readers, and head: contracts.
-/
import Derived.Test.Qxb6604654aReadHead
import Derived.Deep.RegionWith
namespace Go.Proofs.Qxb6604654a
open Go.RowKit

theorem or_u16 (A : Int) (b M s : Nat) (hM : M = 2 ^ s) (h0 : 0 ≤ A) (h1 : A < M) (hb : b * M < 65536) (hA : A < 65536) : bits .or .u16 A ((b : Int) * (M : Int)) = A + (b : Int) * (M : Int) := by
  have e3 : ((b : Int) * (M : Int)) = ((b * M : Nat) : Int) := by simp
  rw [e3, u16_or A ((b * M : Nat) : Int) h0 hA (by omega) (by omega)]
  have e : (((b * M : Nat) : Int)).toNat = b * 2 ^ s := by rw [hM]; rfl
  rw [e, Nat.or_comm, nat_join s (b * 2 ^ s) A.toNat (by simp) (by omega), ← hM]
  omega

theorem or_u32 (A : Int) (b M s : Nat) (hM : M = 2 ^ s) (h0 : 0 ≤ A) (h1 : A < M) (hb : b * M < 4294967296) (hA : A < 4294967296) : bits .or .u32 A ((b : Int) * (M : Int)) = A + (b : Int) * (M : Int) := by
  have e3 : ((b : Int) * (M : Int)) = ((b * M : Nat) : Int) := by simp
  rw [e3, u32_or A ((b * M : Nat) : Int) h0 hA (by omega) (by omega)]
  have e : (((b * M : Nat) : Int)).toNat = b * 2 ^ s := by rw [hM]; rfl
  rw [e, Nat.or_comm, nat_join s (b * 2 ^ s) A.toNat (by simp) (by omega), ← hM]
  omega

theorem or_u64 (A : Int) (b M s : Nat) (hM : M = 2 ^ s) (h0 : 0 ≤ A) (h1 : A < M) (hb : b * M < 18446744073709551616) (hA : A < 18446744073709551616) : bits .or .u64 A ((b : Int) * (M : Int)) = A + (b : Int) * (M : Int) := by
  have e3 : ((b : Int) * (M : Int)) = ((b * M : Nat) : Int) := by simp
  rw [e3, u64_or A ((b * M : Nat) : Int) h0 hA (by omega) (by omega)]
  have e : (((b * M : Nat) : Int)).toNat = b * 2 ^ s := by rw [hM]; rfl
  rw [e, Nat.or_comm, nat_join s (b * 2 ^ s) A.toNat (by simp) (by omega), ← hM]
  omega

set_option maxHeartbeats 1000000 in
theorem uint16_any (ao : Option Addr) (n cap : Nat) (l : List UInt8) (w : World) (h : BytesAt w ao n l) (hn : 2 ≤ n) :
    Calls Try.prog 29 #[.agg #[], .slice ao n cap] w fun e w' => e = .returned (.int .u16 (be l 0 2 : Nat)) ∧ ∃ q, w' = (w.alloc (.cells #[] 55)).drewN q := by
  obtain ⟨b, off, rfl, hc⟩ := h.cells (by omega)
  have c0 := hc 0 (by omega)
  have c1 := hc 1 (by omega)
  rw [byteAt_nb] at c0 c1
  rw [Nat.add_zero] at c0
  have hbl := World.block_lt_of_cell? w _ c0
  have b0 := nb_lt l 0
  have b1 := nb_lt l 1
  have he : ((be l 0 2 : Nat) : Int) = (nb l 1 : Int) + (nb l 0 : Int) * 256 := by
    simp only [be, Nat.zero_add]; omega
  have HE : Hid _ := he
  clear h hc he
  generalize nb l 0 = x0 at *
  generalize nb l 1 = x1 at *
  have o1 : bits .or .u16 ((x1 : Int)) ((x0 : Int) * 256) = (x1 : Int) + (x0 : Int) * 256 := or_u16 ((x1 : Int)) x0 256 8 (by decide) (by omega) (by omega) (by omega) (by omega)
  have i0 : (0 : Int) < n := by omega
  have i1 : (1 : Int) < n := by omega
  go_enter Try.func29, Try.ntmps29
  go_wp2
  go_quiet (fail)
  go_wp2
  go_ret
  exact ⟨by rw [HE.out]; rfl, _, rfl⟩

set_option maxHeartbeats 1000000 in
theorem uint32_any (ao : Option Addr) (n cap : Nat) (l : List UInt8) (w : World) (h : BytesAt w ao n l) (hn : 4 ≤ n) :
    Calls Try.prog 30 #[.agg #[], .slice ao n cap] w fun e w' => e = .returned (.int .u32 (be l 0 4 : Nat)) ∧ ∃ q, w' = (w.alloc (.cells #[] 55)).drewN q := by
  obtain ⟨b, off, rfl, hc⟩ := h.cells (by omega)
  have c0 := hc 0 (by omega)
  have c1 := hc 1 (by omega)
  have c2 := hc 2 (by omega)
  have c3 := hc 3 (by omega)
  rw [byteAt_nb] at c0 c1 c2 c3
  rw [Nat.add_zero] at c0
  have hbl := World.block_lt_of_cell? w _ c0
  have b0 := nb_lt l 0
  have b1 := nb_lt l 1
  have b2 := nb_lt l 2
  have b3 := nb_lt l 3
  have he : ((be l 0 4 : Nat) : Int) = (nb l 3 : Int) + (nb l 2 : Int) * 256 + (nb l 1 : Int) * 65536 + (nb l 0 : Int) * 16777216 := by
    simp only [be, Nat.zero_add]; omega
  have HE : Hid _ := he
  clear h hc he
  generalize nb l 0 = x0 at *
  generalize nb l 1 = x1 at *
  generalize nb l 2 = x2 at *
  generalize nb l 3 = x3 at *
  have o1 : bits .or .u32 ((x3 : Int)) ((x2 : Int) * 256) = (x3 : Int) + (x2 : Int) * 256 := or_u32 ((x3 : Int)) x2 256 8 (by decide) (by omega) (by omega) (by omega) (by omega)
  have o2 : bits .or .u32 ((x3 : Int) + (x2 : Int) * 256) ((x1 : Int) * 65536) = (x3 : Int) + (x2 : Int) * 256 + (x1 : Int) * 65536 := or_u32 ((x3 : Int) + (x2 : Int) * 256) x1 65536 16 (by decide) (by omega) (by omega) (by omega) (by omega)
  have o3 : bits .or .u32 ((x3 : Int) + (x2 : Int) * 256 + (x1 : Int) * 65536) ((x0 : Int) * 16777216) = (x3 : Int) + (x2 : Int) * 256 + (x1 : Int) * 65536 + (x0 : Int) * 16777216 := or_u32 ((x3 : Int) + (x2 : Int) * 256 + (x1 : Int) * 65536) x0 16777216 24 (by decide) (by omega) (by omega) (by omega) (by omega)
  have i0 : (0 : Int) < n := by omega
  have i1 : (1 : Int) < n := by omega
  have i2 : (2 : Int) < n := by omega
  have i3 : (3 : Int) < n := by omega
  go_enter Try.func30, Try.ntmps30
  go_wp2
  go_quiet (fail)
  go_wp2
  go_ret
  exact ⟨by rw [HE.out]; rfl, _, rfl⟩

set_option maxHeartbeats 1000000 in
theorem uint64_any (ao : Option Addr) (n cap : Nat) (l : List UInt8) (w : World) (h : BytesAt w ao n l) (hn : 8 ≤ n) :
    Calls Try.prog 31 #[.agg #[], .slice ao n cap] w fun e w' => e = .returned (.int .u64 (be l 0 8 : Nat)) ∧ ∃ q, w' = (w.alloc (.cells #[] 55)).drewN q := by
  obtain ⟨b, off, rfl, hc⟩ := h.cells (by omega)
  have c0 := hc 0 (by omega)
  have c1 := hc 1 (by omega)
  have c2 := hc 2 (by omega)
  have c3 := hc 3 (by omega)
  have c4 := hc 4 (by omega)
  have c5 := hc 5 (by omega)
  have c6 := hc 6 (by omega)
  have c7 := hc 7 (by omega)
  rw [byteAt_nb] at c0 c1 c2 c3 c4 c5 c6 c7
  rw [Nat.add_zero] at c0
  have hbl := World.block_lt_of_cell? w _ c0
  have b0 := nb_lt l 0
  have b1 := nb_lt l 1
  have b2 := nb_lt l 2
  have b3 := nb_lt l 3
  have b4 := nb_lt l 4
  have b5 := nb_lt l 5
  have b6 := nb_lt l 6
  have b7 := nb_lt l 7
  have he : ((be l 0 8 : Nat) : Int) = (nb l 7 : Int) + (nb l 6 : Int) * 256 + (nb l 5 : Int) * 65536 + (nb l 4 : Int) * 16777216 + (nb l 3 : Int) * 4294967296 + (nb l 2 : Int) * 1099511627776 + (nb l 1 : Int) * 281474976710656 + (nb l 0 : Int) * 72057594037927936 := by
    simp only [be, Nat.zero_add]; omega
  have HE : Hid _ := he
  clear h hc he
  generalize nb l 0 = x0 at *
  generalize nb l 1 = x1 at *
  generalize nb l 2 = x2 at *
  generalize nb l 3 = x3 at *
  generalize nb l 4 = x4 at *
  generalize nb l 5 = x5 at *
  generalize nb l 6 = x6 at *
  generalize nb l 7 = x7 at *
  have o1 : bits .or .u64 ((x7 : Int)) ((x6 : Int) * 256) = (x7 : Int) + (x6 : Int) * 256 := or_u64 ((x7 : Int)) x6 256 8 (by decide) (by omega) (by omega) (by omega) (by omega)
  have o2 : bits .or .u64 ((x7 : Int) + (x6 : Int) * 256) ((x5 : Int) * 65536) = (x7 : Int) + (x6 : Int) * 256 + (x5 : Int) * 65536 := or_u64 ((x7 : Int) + (x6 : Int) * 256) x5 65536 16 (by decide) (by omega) (by omega) (by omega) (by omega)
  have o3 : bits .or .u64 ((x7 : Int) + (x6 : Int) * 256 + (x5 : Int) * 65536) ((x4 : Int) * 16777216) = (x7 : Int) + (x6 : Int) * 256 + (x5 : Int) * 65536 + (x4 : Int) * 16777216 := or_u64 ((x7 : Int) + (x6 : Int) * 256 + (x5 : Int) * 65536) x4 16777216 24 (by decide) (by omega) (by omega) (by omega) (by omega)
  have o4 : bits .or .u64 ((x7 : Int) + (x6 : Int) * 256 + (x5 : Int) * 65536 + (x4 : Int) * 16777216) ((x3 : Int) * 4294967296) = (x7 : Int) + (x6 : Int) * 256 + (x5 : Int) * 65536 + (x4 : Int) * 16777216 + (x3 : Int) * 4294967296 := or_u64 ((x7 : Int) + (x6 : Int) * 256 + (x5 : Int) * 65536 + (x4 : Int) * 16777216) x3 4294967296 32 (by decide) (by omega) (by omega) (by omega) (by omega)
  have o5 : bits .or .u64 ((x7 : Int) + (x6 : Int) * 256 + (x5 : Int) * 65536 + (x4 : Int) * 16777216 + (x3 : Int) * 4294967296) ((x2 : Int) * 1099511627776) = (x7 : Int) + (x6 : Int) * 256 + (x5 : Int) * 65536 + (x4 : Int) * 16777216 + (x3 : Int) * 4294967296 + (x2 : Int) * 1099511627776 := or_u64 ((x7 : Int) + (x6 : Int) * 256 + (x5 : Int) * 65536 + (x4 : Int) * 16777216 + (x3 : Int) * 4294967296) x2 1099511627776 40 (by decide) (by omega) (by omega) (by omega) (by omega)
  have o6 : bits .or .u64 ((x7 : Int) + (x6 : Int) * 256 + (x5 : Int) * 65536 + (x4 : Int) * 16777216 + (x3 : Int) * 4294967296 + (x2 : Int) * 1099511627776) ((x1 : Int) * 281474976710656) = (x7 : Int) + (x6 : Int) * 256 + (x5 : Int) * 65536 + (x4 : Int) * 16777216 + (x3 : Int) * 4294967296 + (x2 : Int) * 1099511627776 + (x1 : Int) * 281474976710656 := or_u64 ((x7 : Int) + (x6 : Int) * 256 + (x5 : Int) * 65536 + (x4 : Int) * 16777216 + (x3 : Int) * 4294967296 + (x2 : Int) * 1099511627776) x1 281474976710656 48 (by decide) (by omega) (by omega) (by omega) (by omega)
  have o7 : bits .or .u64 ((x7 : Int) + (x6 : Int) * 256 + (x5 : Int) * 65536 + (x4 : Int) * 16777216 + (x3 : Int) * 4294967296 + (x2 : Int) * 1099511627776 + (x1 : Int) * 281474976710656) ((x0 : Int) * 72057594037927936) = (x7 : Int) + (x6 : Int) * 256 + (x5 : Int) * 65536 + (x4 : Int) * 16777216 + (x3 : Int) * 4294967296 + (x2 : Int) * 1099511627776 + (x1 : Int) * 281474976710656 + (x0 : Int) * 72057594037927936 := or_u64 ((x7 : Int) + (x6 : Int) * 256 + (x5 : Int) * 65536 + (x4 : Int) * 16777216 + (x3 : Int) * 4294967296 + (x2 : Int) * 1099511627776 + (x1 : Int) * 281474976710656) x0 72057594037927936 56 (by decide) (by omega) (by omega) (by omega) (by omega)
  have i0 : (0 : Int) < n := by omega
  have i1 : (1 : Int) < n := by omega
  have i2 : (2 : Int) < n := by omega
  have i3 : (3 : Int) < n := by omega
  have i4 : (4 : Int) < n := by omega
  have i5 : (5 : Int) < n := by omega
  have i6 : (6 : Int) < n := by omega
  have i7 : (7 : Int) < n := by omega
  go_enter Try.func31, Try.ntmps31
  go_wp2
  go_quiet (fail)
  go_wp2
  go_ret
  exact ⟨by rw [HE.out]; rfl, _, rfl⟩

end Go.Proofs.Qxb6604654a

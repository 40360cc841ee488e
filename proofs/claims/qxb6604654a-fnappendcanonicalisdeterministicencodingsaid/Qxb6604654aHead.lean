/-
  head, where the low five bits are below 24 (the argument lies in the byte itself).
-/
import Derived.Test.Qxb6604654aBools
namespace Go.Proofs.Qxb6604654a
open Go.RowKit

theorem and31 (x : Int) (h0 : 0 ≤ x) (h1 : x < 256) : bits .and .u8 x 31 = x % 32 := by
  rw [u8_and x 31 h0 h1 (by decide) (by decide)]
  have : (31 : Int).toNat = 2 ^ 5 - 1 := by decide
  rw [this, Nat.and_two_pow_sub_one_eq_mod]
  omega

/-- Where b[i:] begins. -/
def cutAt (ao : Option Addr) (cap i : Nat) : Option Addr := if cap = i then ao else ao.map (·.add i)
theorem cutAt_end (ao : Option Addr) (i : Nat) : cutAt ao i i = ao := by simp [cutAt]
theorem cutAt_some {b off cap i : Nat} (h : ¬ cap = i) : cutAt (some ⟨b, off, none⟩) cap i = some ⟨b, off + i, none⟩ := by simp [cutAt, h, Addr.add]
theorem cutAt_block {ao : Option Addr} {cap i : Nat} {a : Addr} (h : cutAt ao cap i = some a) : ∃ a0, ao = some a0 ∧ a0.block = a.block := by
  unfold cutAt at h
  split at h
  · exact ⟨a, h, rfl⟩
  · cases ao with
    | none => simp at h
    | some a0 =>
      refine ⟨a0, rfl, ?_⟩
      simp only [Option.map_some, Option.some.injEq] at h
      rw [← h]
      unfold Addr.add
      split <;> rfl
theorem byteAt_drop (l : List UInt8) (i k : Nat) : byteAt (l.drop i) k = byteAt l (i + k) := by
  unfold byteAt
  rw [List.getD, List.getD, List.getElem?_drop]
theorem BytesAt.cut {w : World} {ao : Option Addr} {n cap : Nat} {l : List UInt8} (h : BytesAt w ao n l) (hcap : n ≤ cap) (i : Nat) (_hi : i ≤ n) : BytesAt w (cutAt ao cap i) (n - i) (l.drop i) := by
  refine ⟨by rw [List.length_drop, h.len], fun hn => ?_⟩
  obtain ⟨b, off, rfl, hc⟩ := h.cells (by omega)
  refine ⟨b, off + i, cutAt_some (by omega), fun k hk => ?_⟩
  rw [byteAt_drop, Nat.add_assoc]
  exact hc (i + k) (by omega)

theorem head_small (ao : Option Addr) (n cap : Nat) (l : List UInt8) (w : World) (h : BytesAt w ao n l) (hn0 : 0 < n) (hcap : n ≤ cap) (hs : byteAt l 0 % 32 < 24) :
    Calls Try.prog 26 #[.slice ao n cap] w fun e w' => e = .returned (.tuple #[.int .u8 (byteAt l 0 / 32), .int .u64 (byteAt l 0 % 32), .slice (cutAt ao cap 1) (n - 1) (cap - 1)]) ∧ ∃ q, w' = w.drewN q := by
  obtain ⟨b, off, rfl, hc⟩ := h.cells hn0
  have c0 := hc 0 hn0
  rw [Nat.add_zero] at c0
  have hb := byteAt_bd l 0
  have ha := and31 (byteAt l 0) hb.1 hb.2
  clear h hc
  generalize byteAt l 0 = x at *
  obtain ⟨hb0, hb1⟩ := hb
  have i1 : (1 : Int) ≤ n := by omega
  have t4 : (x % 32 == 24) = false := by simp; omega
  have t5 : (x % 32 == 25) = false := by simp; omega
  have t6 : (x % 32 == 26) = false := by simp; omega
  have t7 : (x % 32 == 27) = false := by simp; omega
  by_cases h1 : cap = 1
  · obtain rfl : n = 1 := by omega
    subst h1
    rw [cutAt_end]
    go_enter Try.func26, Try.ntmps26
    go_wp2
    go_quiet (fail)
    go_wp2
    go_ret3
    exact ⟨rfl, _, rfl⟩
  · rw [cutAt_some h1]
    go_enter Try.func26, Try.ntmps26
    go_wp2
    go_quiet (fail)
    go_wp2
    go_ret3
    exact ⟨rfl, _, rfl⟩

theorem zzhead_small (ao : Option Addr) (n cap : Nat) (l : List UInt8) (w : World) (h : BytesAt w ao n l) (hn0 : 0 < n) (hcap : n ≤ cap) (hs : byteAt l 0 % 32 < 24) :
    Calls Try.prog 18 #[.slice ao n cap] w fun e w' => e = .returned (.tuple #[.int .u8 (byteAt l 0 / 32), .int .u64 (byteAt l 0 % 32), .slice (cutAt ao cap 1) (n - 1) (cap - 1)]) ∧ ∃ q, w' = w.drewN q := by
  have HS : Hid (BytesAt w ao n l) := h
  clear h
  go_enter Try.func18, Try.ntmps18
  go_wp2_with (go_at_call 26; refine (head_small ao n cap l _ HS.out hn0 hcap hs).mono ?_; rintro e w' ⟨rfl, q, rfl⟩)
  go_ret3
  exact ⟨rfl, q, rfl⟩

end Go.Proofs.Qxb6604654a

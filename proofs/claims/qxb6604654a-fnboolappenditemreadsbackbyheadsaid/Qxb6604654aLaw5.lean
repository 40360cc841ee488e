/-
  FnBoolAppendItemReadsBackByHead: the law's walk.
-/
import Derived.Test.Qxb6604654aHead
namespace Go.Proofs.Qxb6604654a
open Go.RowKit

theorem byteAt_last (l : List UInt8) (b : UInt8) (n : Nat) (h : l.length = n) : byteAt (l ++ [b]) n = (b.toNat : Int) := by
  subst h
  simp [byteAt, List.getD]
theorem byteAt_head (b : UInt8) : byteAt [b] 0 = (b.toNat : Int) := rfl

set_option maxHeartbeats 1000000 in
theorem law5_walk (x : Bool) (ao : Option Addr) (n cap : Nat) (l : List UInt8) (w : World) (h : BytesAt w ao n l) (hn : n ≤ 9223372036854775807) :
    Calls Try.prog 5 #[.bool x, .slice ao n cap] w fun e w' => e = .returned (.bool true) ∧ Below w.heap.size w w' := by
  have HS : Hid (BytesAt w ao n l) := h
  clear h
  go_enter Try.func5, Try.ntmps5
  go_wp2_with fail
  refine (bytesBool_any x ao n cap w hn).mono ?_
  rintro e w' ⟨⟨t, rfl⟩, hw⟩
  obtain rfl : w = w' := hw.symm
  clear hw
  cases t with
  | false =>
    go_wp2
    go_ret
    exact ⟨rfl, Below.refl _ _⟩
  | true =>
    by_cases g1 : 1048576 < n
    · have g1' : (1048576 : Int) < n := by omega
      go_wp2
      go_ret
      exact ⟨rfl, Below.refl _ _⟩
    have g1d : decide ((1048576 : Int) < n) = false := by simp; omega
    go_wp2_with fail
    refine (clone_any ao n cap l w HS.out (by omega)).mono ?_
    rintro e w1 ⟨v, rfl, ho, hb, hv⟩
    have hlen := HS.out.len
    obtain ⟨ao1, cap1, rfl, hc1, _⟩ := ho.shape
    have HO : Hid (Own w1 (.slice ao1 l.length cap1) l) := ho
    have HB : Hid (Below w.heap.size w w1) := hb
    have HV : Hid (∀ g, (Value.slice ao1 l.length cap1).ownBlock = some g → w.heap.size ≤ g) := hv
    clear ho hb hv HS
    rw [hlen] at HO HV hc1 ⊢
    go_wp2_with fail
    refine (zzAppendItem_any x (.slice ao1 n cap1) l w1 HO.out (by omega)).mono ?_
    rintro e w2 ⟨v', rfl, ho2, he2⟩
    obtain ⟨ao2, cap2, rfl, hc2, _⟩ := ho2.shape
    have hlen2 : (l ++ [boolByte x]).length = n + 1 := by simp [hlen]
    rw [hlen2] at ho2 he2 hc2 ⊢
    have B2 : Hid (BytesAt w2 ao2 (n + 1) (l ++ [boolByte x])) := ho2.bytes
    have B1 : Hid (BytesAt w2 ao1 n l) := (he2.keeps _ _ HO.out (fun _ => Nat.le_refl _)).bytes
    have HB2 : Hid (Below w.heap.size w w2) := he2.below HB.out HB.out.size HV.out
    clear ho2 he2 HO HB HV hlen2
    go_wp2_with fail
    refine (hasPrefix_yes ao2 (n + 1) cap2 [boolByte x] ao1 n cap1 l w2 B2.out B1.out (by omega)).mono ?_
    rintro e w3 ⟨rfl, q, rfl⟩
    obtain ⟨b, off, rfl, hc⟩ := B2.out.cells (by omega)
    have cn := hc n (by omega)
    rw [byteAt_last l _ n hlen] at cn
    have B3 : Hid (BytesAt w2 (cutAt (some ⟨b, off, none⟩) cap2 n) (n + 1 - n) ((l ++ [boolByte x]).drop n)) := B2.out.cut hc2 n (by omega)
    rw [cutAt_some (by omega), show n + 1 - n = 1 from by omega, ← hlen, List.drop_left, hlen] at B3
    clear hc B1 B2 hlen
    cases x with
    | true =>
      have hk : boolByte true = 245 := rfl
      rw [hk] at cn B3
      rw [show (((245 : UInt8).toNat : Nat) : Int) = 245 from rfl] at cn
      have ha : bits .and .u8 245 31 = 21 := by decide
      go_wp2_with fail
      have hh := zzhead_small (some ⟨b, off + n, none⟩) 1 (cap2 - n) [245] (w2.drewN q) (B3.out.mono (below_drewN (Below.refl _ _) q)) (by omega) (by omega) (by rw [byteAt_head]; decide)
      rw [byteAt_head, show (((245 : UInt8).toNat : Nat) : Int) / 32 = 7 from by decide, show (((245 : UInt8).toNat : Nat) : Int) % 32 = 21 from by decide] at hh
      refine hh.mono ?_
      clear hh B3 cn
      rintro e w4 ⟨rfl, q2, rfl⟩
      go_wp2
      go_ret
      exact ⟨rfl, below_drewN HB2.out _⟩
    | false =>
      have hk : boolByte false = 244 := rfl
      rw [hk] at cn B3
      rw [show (((244 : UInt8).toNat : Nat) : Int) = 244 from rfl] at cn
      have ha : bits .and .u8 244 31 = 20 := by decide
      go_wp2_with fail
      have hh := zzhead_small (some ⟨b, off + n, none⟩) 1 (cap2 - n) [244] (w2.drewN q) (B3.out.mono (below_drewN (Below.refl _ _) q)) (by omega) (by omega) (by rw [byteAt_head]; decide)
      rw [byteAt_head, show (((244 : UInt8).toNat : Nat) : Int) / 32 = 7 from by decide, show (((244 : UInt8).toNat : Nat) : Int) % 32 = 20 from by decide] at hh
      refine hh.mono ?_
      clear hh B3 cn
      rintro e w4 ⟨rfl, q2, rfl⟩
      go_wp2
      go_ret
      exact ⟨rfl, below_drewN HB2.out _⟩

end Go.Proofs.Qxb6604654a

/-
  zzMinimal, zzCanonAt: the contracts.
-/
import Derived.Test.Qxb6604654aCanonP
import Derived.Test.Qxb6604654aSkip
import Derived.Test.Qxb6604654aCompare
import Derived.Test.Qxb6604654aCanon
import Derived.Deep.RegionHeld3
namespace Go.Proofs.Qxb6604654a
open Go.RowKit

theorem minimal_any (i x : Nat) (w : World) (hx : x < 18446744073709551616) (hi : i < 32) :
    Calls Try.prog 22 #[.int .u8 (i : Nat), .int .u64 (x : Nat)] w fun e w' => e = .returned (.bool (minimal i x)) ∧ w' = w := by
  have hd : i = 24 ∨ i = 25 ∨ i = 26 ∨ i = 27 ∨ (i ≠ 24 ∧ i ≠ 25 ∧ i ≠ 26 ∧ i ≠ 27) := by omega
  rcases hd with rfl | rfl | rfl | rfl | ⟨h1, h2, h3, h4⟩
  · have e : minimal 24 x = decide (24 ≤ x) := rfl
    rw [e]
    by_cases h : 24 ≤ x
    · have i1 : (24 ≤ (x : Int)) := by omega
      rw [decide_eq_true h]
      go_enter Try.func22, Try.ntmps22
      go_wp2
      go_ret
      exact ⟨by first | rfl | simp [h], rfl⟩
    · have i1 : ¬ (24 ≤ (x : Int)) := by omega
      rw [decide_eq_false h]
      go_enter Try.func22, Try.ntmps22
      go_wp2
      go_ret
      exact ⟨by first | rfl | simp [h], rfl⟩
  · have e : minimal 25 x = decide (255 < x) := rfl
    rw [e]
    by_cases h : 255 < x
    · have i1 : (255 < (x : Int)) := by omega
      rw [decide_eq_true h]
      go_enter Try.func22, Try.ntmps22
      go_wp2
      go_ret
      exact ⟨by first | rfl | simp [h], rfl⟩
    · have i1 : ¬ (255 < (x : Int)) := by omega
      rw [decide_eq_false h]
      go_enter Try.func22, Try.ntmps22
      go_wp2
      go_ret
      exact ⟨by first | rfl | simp [h], rfl⟩
  · have e : minimal 26 x = decide (65535 < x) := rfl
    rw [e]
    by_cases h : 65535 < x
    · have i1 : (65535 < (x : Int)) := by omega
      rw [decide_eq_true h]
      go_enter Try.func22, Try.ntmps22
      go_wp2
      go_ret
      exact ⟨by first | rfl | simp [h], rfl⟩
    · have i1 : ¬ (65535 < (x : Int)) := by omega
      rw [decide_eq_false h]
      go_enter Try.func22, Try.ntmps22
      go_wp2
      go_ret
      exact ⟨by first | rfl | simp [h], rfl⟩
  · have e : minimal 27 x = decide (4294967295 < x) := rfl
    rw [e]
    by_cases h : 4294967295 < x
    · have i1 : (4294967295 < (x : Int)) := by omega
      rw [decide_eq_true h]
      go_enter Try.func22, Try.ntmps22
      go_wp2
      go_ret
      exact ⟨by first | rfl | simp [h], rfl⟩
    · have i1 : ¬ (4294967295 < (x : Int)) := by omega
      rw [decide_eq_false h]
      go_enter Try.func22, Try.ntmps22
      go_wp2
      go_ret
      exact ⟨by first | rfl | simp [h], rfl⟩
  · have e : minimal i x = true := by unfold minimal; rw [if_neg h1, if_neg h2, if_neg h3, if_neg h4]
    rw [e]
    have t1 : ((i : Int) == 24) = false := by simp; omega
    have t2 : ((i : Int) == 25) = false := by simp; omega
    have t3 : ((i : Int) == 26) = false := by simp; omega
    have t4 : ((i : Int) == 27) = false := by simp; omega
    go_enter Try.func22, Try.ntmps22
    go_wp2
    go_ret
    exact ⟨rfl, rfl⟩

def CanPost (s : Bool) (f : Nat) (l : List UInt8) (pos a : Nat) (w : World) (e : Ending) (w' : World) : Prop :=
  (∃ q, w' = w.drewN q) ∧ ((e = .returned (.tuple #[.int .i64 ((pos + a : Nat)), .bool true]) ∧ Canon s f (l.drop pos)) ∨ (e = .returned (.tuple #[.int .i64 0, .bool false]) ∧ ¬ Canon s f (l.drop pos)))
def CanAtC (s : Bool) (f b off n cap : Nat) (l : List UInt8) : Prop := ∀ (w : World) (pos a : Nat), BytesAt w (some ⟨b, off, none⟩) n l → itemLen f (l.drop pos) = some a →
  Calls Try.prog 12 #[.slice (some ⟨b, off, none⟩) n cap, .int .i64 (pos : Nat), .bool s] w (CanPost s f l pos a w)
theorem ret_pos {p q : Int} {t : Bool} (h : p = q) : Ending.returned (.tuple #[.int .i64 p, .bool t]) = .returned (.tuple #[.int .i64 q, .bool t]) := by rw [h]
theorem drewN_zero (w : World) : w = w.drewN 0 := rfl
theorem BytesAt.drewN {w : World} {ao : Option Addr} {n : Nat} {l : List UInt8} (h : BytesAt w ao n l) (q : Nat) : BytesAt (w.drewN q) ao n l := h.mono (below_drewN (Below.refl _ _) q)

set_option maxHeartbeats 1000000 in
set_option maxRecDepth 100000 in
theorem canat_no0 (s : Bool) (f b off n cap : Nat) (l : List UInt8) (w : World) (pos q x i : Nat) (_hn : n ≤ 1099511627776) (hx : x < 18446744073709551616) (hi : i < 32) (_hq : pos + q + 0 ≤ n)
    (HRD : Hid (Calls Try.prog 20 #[.slice (some ⟨b, off, none⟩) n cap, .int .i64 (pos : Nat)] w fun e w' => e = .returned (.tuple #[.int .u8 0, .int .u8 (i : Nat), .int .u64 (x : Nat), .int .i64 ((pos + q : Nat))]) ∧ w' = w))
    (hmin : minimal i x = false) (a : Nat) (HN : Hid (¬ Canon s (f + 1) (l.drop pos))) :
    Calls Try.prog 12 #[.slice (some ⟨b, off, none⟩) n cap, .int .i64 (pos : Nat), .bool s] w (CanPost s (f + 1) l pos a w) := by
  have HMC : Hid (Calls Try.prog 22 #[.int .u8 (i : Nat), .int .u64 (x : Nat)] w fun e w' => e = .returned (.bool false) ∧ w' = w) := by
    have h := minimal_any i x w hx hi
    rw [hmin] at h
    exact h
  go_enter Try.func12, Try.ntmps12
  go_wp2_with fail
  refine Calls.mono HRD.out ?_
  clear HRD
  rintro e w' ⟨rfl, hw'⟩
  obtain rfl : w = w' := hw'.symm
  clear hw'
  go_wp2_with fail
  refine Calls.mono HMC.out ?_
  clear HMC
  rintro e w' ⟨rfl, hw'⟩
  obtain rfl : w = w' := hw'.symm
  clear hw'
  go_wp2_with fail
  go_ret2
  exact ⟨⟨0, rfl⟩, .inr ⟨rfl, HN.out⟩⟩

set_option maxHeartbeats 1000000 in
set_option maxRecDepth 100000 in
theorem canat_no1 (s : Bool) (f b off n cap : Nat) (l : List UInt8) (w : World) (pos q x i : Nat) (_hn : n ≤ 1099511627776) (hx : x < 18446744073709551616) (hi : i < 32) (_hq : pos + q + 0 ≤ n)
    (HRD : Hid (Calls Try.prog 20 #[.slice (some ⟨b, off, none⟩) n cap, .int .i64 (pos : Nat)] w fun e w' => e = .returned (.tuple #[.int .u8 1, .int .u8 (i : Nat), .int .u64 (x : Nat), .int .i64 ((pos + q : Nat))]) ∧ w' = w))
    (hmin : minimal i x = false) (a : Nat) (HN : Hid (¬ Canon s (f + 1) (l.drop pos))) :
    Calls Try.prog 12 #[.slice (some ⟨b, off, none⟩) n cap, .int .i64 (pos : Nat), .bool s] w (CanPost s (f + 1) l pos a w) := by
  have HMC : Hid (Calls Try.prog 22 #[.int .u8 (i : Nat), .int .u64 (x : Nat)] w fun e w' => e = .returned (.bool false) ∧ w' = w) := by
    have h := minimal_any i x w hx hi
    rw [hmin] at h
    exact h
  go_enter Try.func12, Try.ntmps12
  go_wp2_with fail
  refine Calls.mono HRD.out ?_
  clear HRD
  rintro e w' ⟨rfl, hw'⟩
  obtain rfl : w = w' := hw'.symm
  clear hw'
  go_wp2_with fail
  refine Calls.mono HMC.out ?_
  clear HMC
  rintro e w' ⟨rfl, hw'⟩
  obtain rfl : w = w' := hw'.symm
  clear hw'
  go_wp2_with fail
  go_ret2
  exact ⟨⟨0, rfl⟩, .inr ⟨rfl, HN.out⟩⟩

set_option maxHeartbeats 1000000 in
set_option maxRecDepth 100000 in
theorem canat_no2 (s : Bool) (f b off n cap : Nat) (l : List UInt8) (w : World) (pos q x i : Nat) (_hn : n ≤ 1099511627776) (hx : x < 18446744073709551616) (hi : i < 32) (_hq : pos + q + 0 ≤ n)
    (HRD : Hid (Calls Try.prog 20 #[.slice (some ⟨b, off, none⟩) n cap, .int .i64 (pos : Nat)] w fun e w' => e = .returned (.tuple #[.int .u8 2, .int .u8 (i : Nat), .int .u64 (x : Nat), .int .i64 ((pos + q : Nat))]) ∧ w' = w))
    (hmin : minimal i x = false) (a : Nat) (HN : Hid (¬ Canon s (f + 1) (l.drop pos))) :
    Calls Try.prog 12 #[.slice (some ⟨b, off, none⟩) n cap, .int .i64 (pos : Nat), .bool s] w (CanPost s (f + 1) l pos a w) := by
  have HMC : Hid (Calls Try.prog 22 #[.int .u8 (i : Nat), .int .u64 (x : Nat)] w fun e w' => e = .returned (.bool false) ∧ w' = w) := by
    have h := minimal_any i x w hx hi
    rw [hmin] at h
    exact h
  go_enter Try.func12, Try.ntmps12
  go_wp2_with fail
  refine Calls.mono HRD.out ?_
  clear HRD
  rintro e w' ⟨rfl, hw'⟩
  obtain rfl : w = w' := hw'.symm
  clear hw'
  go_wp2_with fail
  refine Calls.mono HMC.out ?_
  clear HMC
  rintro e w' ⟨rfl, hw'⟩
  obtain rfl : w = w' := hw'.symm
  clear hw'
  go_wp2_with fail
  go_ret2
  exact ⟨⟨0, rfl⟩, .inr ⟨rfl, HN.out⟩⟩

set_option maxHeartbeats 1000000 in
set_option maxRecDepth 100000 in
theorem canat_no3 (s : Bool) (f b off n cap : Nat) (l : List UInt8) (w : World) (pos q x i : Nat) (_hn : n ≤ 1099511627776) (hx : x < 18446744073709551616) (hi : i < 32) (_hq : pos + q + 0 ≤ n)
    (HRD : Hid (Calls Try.prog 20 #[.slice (some ⟨b, off, none⟩) n cap, .int .i64 (pos : Nat)] w fun e w' => e = .returned (.tuple #[.int .u8 3, .int .u8 (i : Nat), .int .u64 (x : Nat), .int .i64 ((pos + q : Nat))]) ∧ w' = w))
    (hmin : minimal i x = false) (a : Nat) (HN : Hid (¬ Canon s (f + 1) (l.drop pos))) :
    Calls Try.prog 12 #[.slice (some ⟨b, off, none⟩) n cap, .int .i64 (pos : Nat), .bool s] w (CanPost s (f + 1) l pos a w) := by
  have HMC : Hid (Calls Try.prog 22 #[.int .u8 (i : Nat), .int .u64 (x : Nat)] w fun e w' => e = .returned (.bool false) ∧ w' = w) := by
    have h := minimal_any i x w hx hi
    rw [hmin] at h
    exact h
  go_enter Try.func12, Try.ntmps12
  go_wp2_with fail
  refine Calls.mono HRD.out ?_
  clear HRD
  rintro e w' ⟨rfl, hw'⟩
  obtain rfl : w = w' := hw'.symm
  clear hw'
  go_wp2_with fail
  refine Calls.mono HMC.out ?_
  clear HMC
  rintro e w' ⟨rfl, hw'⟩
  obtain rfl : w = w' := hw'.symm
  clear hw'
  go_wp2_with fail
  go_ret2
  exact ⟨⟨0, rfl⟩, .inr ⟨rfl, HN.out⟩⟩

set_option maxHeartbeats 1000000 in
set_option maxRecDepth 100000 in
theorem canat_no4 (s : Bool) (f b off n cap : Nat) (l : List UInt8) (w : World) (pos q x i : Nat) (_hn : n ≤ 1099511627776) (hx : x < 18446744073709551616) (hi : i < 32) (_hq : pos + q + 0 ≤ n)
    (HRD : Hid (Calls Try.prog 20 #[.slice (some ⟨b, off, none⟩) n cap, .int .i64 (pos : Nat)] w fun e w' => e = .returned (.tuple #[.int .u8 4, .int .u8 (i : Nat), .int .u64 (x : Nat), .int .i64 ((pos + q : Nat))]) ∧ w' = w))
    (hmin : minimal i x = false) (a : Nat) (HN : Hid (¬ Canon s (f + 1) (l.drop pos))) :
    Calls Try.prog 12 #[.slice (some ⟨b, off, none⟩) n cap, .int .i64 (pos : Nat), .bool s] w (CanPost s (f + 1) l pos a w) := by
  have HMC : Hid (Calls Try.prog 22 #[.int .u8 (i : Nat), .int .u64 (x : Nat)] w fun e w' => e = .returned (.bool false) ∧ w' = w) := by
    have h := minimal_any i x w hx hi
    rw [hmin] at h
    exact h
  go_enter Try.func12, Try.ntmps12
  go_wp2_with fail
  refine Calls.mono HRD.out ?_
  clear HRD
  rintro e w' ⟨rfl, hw'⟩
  obtain rfl : w = w' := hw'.symm
  clear hw'
  go_wp2_with fail
  refine Calls.mono HMC.out ?_
  clear HMC
  rintro e w' ⟨rfl, hw'⟩
  obtain rfl : w = w' := hw'.symm
  clear hw'
  go_wp2_with fail
  go_ret2
  exact ⟨⟨0, rfl⟩, .inr ⟨rfl, HN.out⟩⟩

set_option maxHeartbeats 1000000 in
set_option maxRecDepth 100000 in
theorem canat_no5 (s : Bool) (f b off n cap : Nat) (l : List UInt8) (w : World) (pos q x i : Nat) (_hn : n ≤ 1099511627776) (hx : x < 18446744073709551616) (hi : i < 32) (_hq : pos + q + 0 ≤ n)
    (HRD : Hid (Calls Try.prog 20 #[.slice (some ⟨b, off, none⟩) n cap, .int .i64 (pos : Nat)] w fun e w' => e = .returned (.tuple #[.int .u8 5, .int .u8 (i : Nat), .int .u64 (x : Nat), .int .i64 ((pos + q : Nat))]) ∧ w' = w))
    (hmin : minimal i x = false) (a : Nat) (HN : Hid (¬ Canon s (f + 1) (l.drop pos))) :
    Calls Try.prog 12 #[.slice (some ⟨b, off, none⟩) n cap, .int .i64 (pos : Nat), .bool s] w (CanPost s (f + 1) l pos a w) := by
  have HMC : Hid (Calls Try.prog 22 #[.int .u8 (i : Nat), .int .u64 (x : Nat)] w fun e w' => e = .returned (.bool false) ∧ w' = w) := by
    have h := minimal_any i x w hx hi
    rw [hmin] at h
    exact h
  go_enter Try.func12, Try.ntmps12
  go_wp2_with fail
  refine Calls.mono HRD.out ?_
  clear HRD
  rintro e w' ⟨rfl, hw'⟩
  obtain rfl : w = w' := hw'.symm
  clear hw'
  go_wp2_with fail
  refine Calls.mono HMC.out ?_
  clear HMC
  rintro e w' ⟨rfl, hw'⟩
  obtain rfl : w = w' := hw'.symm
  clear hw'
  go_wp2_with fail
  go_ret2
  exact ⟨⟨0, rfl⟩, .inr ⟨rfl, HN.out⟩⟩

set_option maxHeartbeats 1000000 in
set_option maxRecDepth 100000 in
theorem canat_no6 (s : Bool) (f b off n cap : Nat) (l : List UInt8) (w : World) (pos q x i : Nat) (_hn : n ≤ 1099511627776) (hx : x < 18446744073709551616) (hi : i < 32) (_hq : pos + q + 0 ≤ n)
    (HRD : Hid (Calls Try.prog 20 #[.slice (some ⟨b, off, none⟩) n cap, .int .i64 (pos : Nat)] w fun e w' => e = .returned (.tuple #[.int .u8 6, .int .u8 (i : Nat), .int .u64 (x : Nat), .int .i64 ((pos + q : Nat))]) ∧ w' = w))
    (hmin : minimal i x = false) (a : Nat) (HN : Hid (¬ Canon s (f + 1) (l.drop pos))) :
    Calls Try.prog 12 #[.slice (some ⟨b, off, none⟩) n cap, .int .i64 (pos : Nat), .bool s] w (CanPost s (f + 1) l pos a w) := by
  have HMC : Hid (Calls Try.prog 22 #[.int .u8 (i : Nat), .int .u64 (x : Nat)] w fun e w' => e = .returned (.bool false) ∧ w' = w) := by
    have h := minimal_any i x w hx hi
    rw [hmin] at h
    exact h
  go_enter Try.func12, Try.ntmps12
  go_wp2_with fail
  refine Calls.mono HRD.out ?_
  clear HRD
  rintro e w' ⟨rfl, hw'⟩
  obtain rfl : w = w' := hw'.symm
  clear hw'
  go_wp2_with fail
  refine Calls.mono HMC.out ?_
  clear HMC
  rintro e w' ⟨rfl, hw'⟩
  obtain rfl : w = w' := hw'.symm
  clear hw'
  go_wp2_with fail
  go_ret2
  exact ⟨⟨0, rfl⟩, .inr ⟨rfl, HN.out⟩⟩

set_option maxHeartbeats 1000000 in
set_option maxRecDepth 100000 in
theorem canat_yes0 (s : Bool) (f b off n cap : Nat) (l : List UInt8) (w : World) (pos q x i : Nat) (_hn : n ≤ 1099511627776) (hx : x < 18446744073709551616) (hi : i < 32) (_hq : pos + q + 0 ≤ n)
    (HRD : Hid (Calls Try.prog 20 #[.slice (some ⟨b, off, none⟩) n cap, .int .i64 (pos : Nat)] w fun e w' => e = .returned (.tuple #[.int .u8 0, .int .u8 (i : Nat), .int .u64 (x : Nat), .int .i64 ((pos + q : Nat))]) ∧ w' = w))
    (hmin : minimal i x = true) (HY : Hid (Canon s (f + 1) (l.drop pos))) :
    Calls Try.prog 12 #[.slice (some ⟨b, off, none⟩) n cap, .int .i64 (pos : Nat), .bool s] w (CanPost s (f + 1) l pos q w) := by
  have HMC : Hid (Calls Try.prog 22 #[.int .u8 (i : Nat), .int .u64 (x : Nat)] w fun e w' => e = .returned (.bool true) ∧ w' = w) := by
    have h := minimal_any i x w hx hi
    rw [hmin] at h
    exact h
  go_enter Try.func12, Try.ntmps12
  go_wp2_with fail
  refine Calls.mono HRD.out ?_
  clear HRD
  rintro e w' ⟨rfl, hw'⟩
  obtain rfl : w = w' := hw'.symm
  clear hw'
  go_wp2_with fail
  refine Calls.mono HMC.out ?_
  clear HMC
  rintro e w' ⟨rfl, hw'⟩
  obtain rfl : w = w' := hw'.symm
  clear hw'
  go_wp2_with fail
  go_ret2
  exact ⟨⟨0, rfl⟩, .inl ⟨ret_pos (by omega), HY.out⟩⟩

set_option maxHeartbeats 1000000 in
set_option maxRecDepth 100000 in
theorem canat_yes1 (s : Bool) (f b off n cap : Nat) (l : List UInt8) (w : World) (pos q x i : Nat) (_hn : n ≤ 1099511627776) (hx : x < 18446744073709551616) (hi : i < 32) (_hq : pos + q + 0 ≤ n)
    (HRD : Hid (Calls Try.prog 20 #[.slice (some ⟨b, off, none⟩) n cap, .int .i64 (pos : Nat)] w fun e w' => e = .returned (.tuple #[.int .u8 1, .int .u8 (i : Nat), .int .u64 (x : Nat), .int .i64 ((pos + q : Nat))]) ∧ w' = w))
    (hmin : minimal i x = true) (HY : Hid (Canon s (f + 1) (l.drop pos))) :
    Calls Try.prog 12 #[.slice (some ⟨b, off, none⟩) n cap, .int .i64 (pos : Nat), .bool s] w (CanPost s (f + 1) l pos q w) := by
  have HMC : Hid (Calls Try.prog 22 #[.int .u8 (i : Nat), .int .u64 (x : Nat)] w fun e w' => e = .returned (.bool true) ∧ w' = w) := by
    have h := minimal_any i x w hx hi
    rw [hmin] at h
    exact h
  go_enter Try.func12, Try.ntmps12
  go_wp2_with fail
  refine Calls.mono HRD.out ?_
  clear HRD
  rintro e w' ⟨rfl, hw'⟩
  obtain rfl : w = w' := hw'.symm
  clear hw'
  go_wp2_with fail
  refine Calls.mono HMC.out ?_
  clear HMC
  rintro e w' ⟨rfl, hw'⟩
  obtain rfl : w = w' := hw'.symm
  clear hw'
  go_wp2_with fail
  go_ret2
  exact ⟨⟨0, rfl⟩, .inl ⟨ret_pos (by omega), HY.out⟩⟩

set_option maxHeartbeats 1000000 in
set_option maxRecDepth 100000 in
theorem canat_yes2 (s : Bool) (f b off n cap : Nat) (l : List UInt8) (w : World) (pos q x i : Nat) (_hn : n ≤ 1099511627776) (hx : x < 18446744073709551616) (hi : i < 32) (_hq : pos + q + x ≤ n)
    (HRD : Hid (Calls Try.prog 20 #[.slice (some ⟨b, off, none⟩) n cap, .int .i64 (pos : Nat)] w fun e w' => e = .returned (.tuple #[.int .u8 2, .int .u8 (i : Nat), .int .u64 (x : Nat), .int .i64 ((pos + q : Nat))]) ∧ w' = w))
    (hmin : minimal i x = true) (HY : Hid (Canon s (f + 1) (l.drop pos))) :
    Calls Try.prog 12 #[.slice (some ⟨b, off, none⟩) n cap, .int .i64 (pos : Nat), .bool s] w (CanPost s (f + 1) l pos (q + x) w) := by
  have HMC : Hid (Calls Try.prog 22 #[.int .u8 (i : Nat), .int .u64 (x : Nat)] w fun e w' => e = .returned (.bool true) ∧ w' = w) := by
    have h := minimal_any i x w hx hi
    rw [hmin] at h
    exact h
  go_enter Try.func12, Try.ntmps12
  go_wp2_with fail
  refine Calls.mono HRD.out ?_
  clear HRD
  rintro e w' ⟨rfl, hw'⟩
  obtain rfl : w = w' := hw'.symm
  clear hw'
  go_wp2_with fail
  refine Calls.mono HMC.out ?_
  clear HMC
  rintro e w' ⟨rfl, hw'⟩
  obtain rfl : w = w' := hw'.symm
  clear hw'
  go_wp2_with fail
  go_ret2
  exact ⟨⟨0, rfl⟩, .inl ⟨ret_pos (by omega), HY.out⟩⟩

set_option maxHeartbeats 1000000 in
set_option maxRecDepth 100000 in
theorem canat_yes3 (s : Bool) (f b off n cap : Nat) (l : List UInt8) (w : World) (pos q x i : Nat) (_hn : n ≤ 1099511627776) (hx : x < 18446744073709551616) (hi : i < 32) (_hq : pos + q + x ≤ n)
    (HRD : Hid (Calls Try.prog 20 #[.slice (some ⟨b, off, none⟩) n cap, .int .i64 (pos : Nat)] w fun e w' => e = .returned (.tuple #[.int .u8 3, .int .u8 (i : Nat), .int .u64 (x : Nat), .int .i64 ((pos + q : Nat))]) ∧ w' = w))
    (hmin : minimal i x = true) (HY : Hid (Canon s (f + 1) (l.drop pos))) :
    Calls Try.prog 12 #[.slice (some ⟨b, off, none⟩) n cap, .int .i64 (pos : Nat), .bool s] w (CanPost s (f + 1) l pos (q + x) w) := by
  have HMC : Hid (Calls Try.prog 22 #[.int .u8 (i : Nat), .int .u64 (x : Nat)] w fun e w' => e = .returned (.bool true) ∧ w' = w) := by
    have h := minimal_any i x w hx hi
    rw [hmin] at h
    exact h
  go_enter Try.func12, Try.ntmps12
  go_wp2_with fail
  refine Calls.mono HRD.out ?_
  clear HRD
  rintro e w' ⟨rfl, hw'⟩
  obtain rfl : w = w' := hw'.symm
  clear hw'
  go_wp2_with fail
  refine Calls.mono HMC.out ?_
  clear HMC
  rintro e w' ⟨rfl, hw'⟩
  obtain rfl : w = w' := hw'.symm
  clear hw'
  go_wp2_with fail
  go_ret2
  exact ⟨⟨0, rfl⟩, .inl ⟨ret_pos (by omega), HY.out⟩⟩

set_option maxHeartbeats 1000000 in
set_option maxRecDepth 100000 in
theorem canat_yes7 (s : Bool) (f b off n cap : Nat) (l : List UInt8) (w : World) (pos q x i : Nat) (_hn : n ≤ 1099511627776) (_hx : x < 18446744073709551616) (_hi : i < 32) (_hq : pos + q + 0 ≤ n)
    (HRD : Hid (Calls Try.prog 20 #[.slice (some ⟨b, off, none⟩) n cap, .int .i64 (pos : Nat)] w fun e w' => e = .returned (.tuple #[.int .u8 7, .int .u8 (i : Nat), .int .u64 (x : Nat), .int .i64 ((pos + q : Nat))]) ∧ w' = w))
     (HY : Hid (Canon s (f + 1) (l.drop pos))) :
    Calls Try.prog 12 #[.slice (some ⟨b, off, none⟩) n cap, .int .i64 (pos : Nat), .bool s] w (CanPost s (f + 1) l pos q w) := by
  go_enter Try.func12, Try.ntmps12
  go_wp2_with fail
  refine Calls.mono HRD.out ?_
  clear HRD
  rintro e w' ⟨rfl, hw'⟩
  obtain rfl : w = w' := hw'.symm
  clear hw'
  go_wp2_with fail
  go_ret2
  exact ⟨⟨0, rfl⟩, .inl ⟨ret_pos (by omega), HY.out⟩⟩

set_option maxHeartbeats 1000000 in
set_option maxRecDepth 100000 in
theorem canat_6 (s : Bool) (f b off n cap : Nat) (l : List UInt8) (IH : Hid (CanAtC s f b off n cap l)) (w : World) (HB : Hid (BytesAt w (some ⟨b, off, none⟩) n l)) (pos q x i c : Nat) (_hn : n ≤ 1099511627776) (hx : x < 18446744073709551616) (hi : i < 32) (_hq : pos + q + c ≤ n)
    (HRD : Hid (Calls Try.prog 20 #[.slice (some ⟨b, off, none⟩) n cap, .int .i64 (pos : Nat)] w fun e w' => e = .returned (.tuple #[.int .u8 6, .int .u8 (i : Nat), .int .u64 (x : Nat), .int .i64 ((pos + q : Nat))]) ∧ w' = w))
    (hmin : minimal i x = true) (HC : Hid (itemLen f (l.drop (pos + q)) = some c)) (HIFF : Hid (Canon s (f + 1) (l.drop pos) ↔ Canon s f (l.drop (pos + q)))) :
    Calls Try.prog 12 #[.slice (some ⟨b, off, none⟩) n cap, .int .i64 (pos : Nat), .bool s] w (CanPost s (f + 1) l pos (q + c) w) := by
  have HMC : Hid (Calls Try.prog 22 #[.int .u8 (i : Nat), .int .u64 (x : Nat)] w fun e w' => e = .returned (.bool true) ∧ w' = w) := by
    have h := minimal_any i x w hx hi
    rw [hmin] at h
    exact h
  go_enter Try.func12, Try.ntmps12
  go_wp2_with fail
  refine Calls.mono HRD.out ?_
  clear HRD
  rintro e w' ⟨rfl, hw'⟩
  obtain rfl : w = w' := hw'.symm
  clear hw'
  go_wp2_with fail
  refine Calls.mono HMC.out ?_
  clear HMC
  rintro e w' ⟨rfl, hw'⟩
  obtain rfl : w = w' := hw'.symm
  clear hw'
  have HA : Hid (Calls Try.prog 12 #[.slice (some ⟨b, off, none⟩) n cap, .int .i64 ((pos + q : Nat)), .bool s] w (CanPost s f l (pos + q) c w)) := IH.out w (pos + q) c HB.out HC.out
  go_wp2_with fail
  refine Calls.mono HA.out ?_
  clear HA
  rintro e w' ⟨⟨q2, rfl⟩, hcase⟩
  rcases hcase with ⟨rfl, hcn⟩ | ⟨rfl, hcn⟩
  · have HCN : Hid (Canon s f (l.drop (pos + q))) := hcn
    clear hcn
    go_wp2_with fail
    go_ret2
    exact ⟨⟨q2, rfl⟩, .inl ⟨ret_pos (by omega), HIFF.out.2 HCN.out⟩⟩
  · have HCN : Hid (¬ Canon s f (l.drop (pos + q))) := hcn
    clear hcn
    go_wp2_with fail
    go_ret2
    exact ⟨⟨q2, rfl⟩, .inr ⟨rfl, fun h => HCN.out (HIFF.out.1 h)⟩⟩

set_option maxHeartbeats 1000000 in
set_option maxRecDepth 100000 in
theorem canat_4 (s : Bool) (f b off n cap : Nat) (l : List UInt8) (IH : Hid (CanAtC s f b off n cap l)) (w : World) (HB : Hid (BytesAt w (some ⟨b, off, none⟩) n l)) (pos q x i c : Nat) (_hn : n ≤ 1099511627776) (hx : x < 18446744073709551616) (hi : i < 32) (_hq : pos + q + c ≤ n)
    (HRD : Hid (Calls Try.prog 20 #[.slice (some ⟨b, off, none⟩) n cap, .int .i64 (pos : Nat)] w fun e w' => e = .returned (.tuple #[.int .u8 4, .int .u8 (i : Nat), .int .u64 (x : Nat), .int .i64 ((pos + q : Nat))]) ∧ w' = w))
    (hmin : minimal i x = true) (HC : Hid (seqLen (itemLen f) x (l.drop (pos + q)) = some c)) (HIFF : Hid (Canon s (f + 1) (l.drop pos) ↔ SeqCanon (Canon s f) (itemLen f) x (l.drop (pos + q)))) :
    Calls Try.prog 12 #[.slice (some ⟨b, off, none⟩) n cap, .int .i64 (pos : Nat), .bool s] w (CanPost s (f + 1) l pos (q + c) w) := by
  have HMC : Hid (Calls Try.prog 22 #[.int .u8 (i : Nat), .int .u64 (x : Nat)] w fun e w' => e = .returned (.bool true) ∧ w' = w) := by
    have h := minimal_any i x w hx hi
    rw [hmin] at h
    exact h
  go_enter Try.func12, Try.ntmps12
  go_wp2_with fail
  refine Calls.mono HRD.out ?_
  clear HRD
  rintro e w' ⟨rfl, hw'⟩
  obtain rfl : w = w' := hw'.symm
  clear hw'
  go_wp2_with fail
  refine Calls.mono HMC.out ?_
  clear HMC
  rintro e w' ⟨rfl, hw'⟩
  obtain rfl : w = w' := hw'.symm
  clear hw'
  have HM : Hid (Mid f (l.drop (pos + q)) 0 x 0 c) := Mid.start HC.out
  have hrc : x ≤ c := HM.out.le.2
  have HF0 : Hid (SeqCanon (Canon s f) (itemLen f) x (l.drop (pos + q)) ↔ SeqCanon (Canon s f) (itemLen f) (x - 0) ((l.drop (pos + q)).drop 0)) := Iff.rfl
  go_wp2_with fail
  go_loopw [11, 12] (fun pv kv wr => ∃ j c' d qd : Nat, j ≤ x ∧ kv = .int .u64 (j : Nat) ∧ pv = .int .i64 ((pos + q + c' : Nat)) ∧ c' + d = c ∧ wr = w.drewN qd ∧ Hid (Mid f (l.drop (pos + q)) j (x - j) c' d) ∧ Hid (SeqCanon (Canon s f) (itemLen f) x (l.drop (pos + q)) ↔ SeqCanon (Canon s f) (itemLen f) (x - j) ((l.drop (pos + q)).drop c'))) (fun _ kv _ => x - (intOf kv).toNat)
  case atStart => exact ⟨0, 0, c, 0, by omega, rfl, rfl, by omega, rfl, HM, HF0⟩
  case round =>
    obtain ⟨j, c', d, qd, hj, rfl, rfl, hcd, rfl, HJ, HF⟩ := hrel
    clear HM HF0
    by_cases hlt : j < x
    · have ex : x - j = (x - (j + 1)) + 1 := by omega
      rw [ex] at HJ HF
      obtain ⟨a1, d1, ha1, rfl, hM⟩ := HJ.out.next
      have HA1 : Hid (itemLen f ((l.drop (pos + q)).drop c') = some a1) := ha1
      have hdr : (l.drop (pos + q)).drop c' = l.drop (pos + q + c') := List.drop_drop
      have HDR : Hid _ := hdr
      rw [hdr] at ha1
      have HA : Hid (Calls Try.prog 12 #[.slice (some ⟨b, off, none⟩) n cap, .int .i64 ((pos + q + c' : Nat)), .bool s] (w.drewN qd) (CanPost s f l (pos + q + c') a1 (w.drewN qd))) := IH.out _ (pos + q + c') a1 (HB.out.drewN qd) ha1
      have HM' : Hid (Mid f (l.drop (pos + q)) (j + 1) (x - (j + 1)) (c' + a1) d1) := hM
      clear HJ ha1 hM hdr
      go_wp2_with fail
      refine Calls.mono HA.out ?_
      clear HA
      rintro e w' ⟨⟨q2, hw'⟩, hcase⟩
      rw [World.drewN_drewN] at hw'
      subst hw'
      rcases hcase with ⟨rfl, hcn⟩ | ⟨rfl, hcn⟩
      · have HF' : Hid (SeqCanon (Canon s f) (itemLen f) x (l.drop (pos + q)) ↔ SeqCanon (Canon s f) (itemLen f) (x - (j + 1)) ((l.drop (pos + q)).drop (c' + a1))) := seq_next HF.out HA1.out (by rw [HDR.out]; exact hcn)
        clear hcn HA1 HF HDR
        go_wp2_with fail
        go_round
        case rel => exact ⟨j + 1, c' + a1, d1, qd + q2, by omega, by go_num, by go_num, by omega, rfl, HM', HF'⟩
        case measure => simp [intOf]; omega
      · have HN : Hid (¬ Canon s (f + 1) (l.drop pos)) := fun h => seq_fail HF.out HA1.out (by rw [HDR.out]; exact hcn) (HIFF.out.1 h)
        clear hcn HA1 HF HDR
        go_wp2_with fail
        go_ret2
        exact ⟨⟨_, rfl⟩, .inr ⟨rfl, HN.out⟩⟩
    · obtain rfl : j = x := by omega
      rw [Nat.sub_self] at HJ HF
      have hd := HJ.out.done
      have HY : Hid (Canon s (f + 1) (l.drop pos)) := HIFF.out.2 (HF.out.2 trivial)
      go_wp2_with fail
      go_ret2
      exact ⟨⟨_, rfl⟩, .inl ⟨ret_pos (by omega), HY.out⟩⟩

end Go.Proofs.Qxb6604654a

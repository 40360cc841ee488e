/-
  zzSemEq at strings, arrays and tags.
-/
import Derived.Test.Qxb6604654aSemEq
namespace Go.Proofs.Qxb6604654a
open Go.RowKit

set_option maxHeartbeats 1000000 in
set_option maxRecDepth 100000 in
theorem sem_2 (R : Prop) (b1 o1 n1 c1 b2 o2 n2 c2 : Nat) (w : World) (p1 k1 i1 p2 k2 i2 x : Nat) (l1 l2 : List UInt8) (HB1 : Hid (BytesAt w (some ⟨b1, o1, none⟩) n1 l1)) (HB2 : Hid (BytesAt w (some ⟨b2, o2, none⟩) n2 l2)) (hn1 : n1 ≤ 1099511627776) (hn2 : n2 ≤ 1099511627776) (hc1 : n1 ≤ c1) (hc2 : n2 ≤ c2)
    (hx0 : 0 < x) (hp1 : k1 + x ≤ n1) (hp2 : k2 + x ≤ n2) (HR1 : Hid (ReadC b1 o1 n1 c1 p1 k1 2 i1 x w)) (HR2 : Hid (ReadC b2 o2 n2 c2 p2 k2 2 i2 x w)) (HIFF : Hid (R ↔ (l1.drop k1).take x = (l2.drop k2).take x)) :
    Calls Try.prog 13 #[.slice (some ⟨b1, o1, none⟩) n1 c1, .int .i64 (p1 : Nat), .slice (some ⟨b2, o2, none⟩) n2 c2, .int .i64 (p2 : Nat)] w (SemRes R (k1 + x) (k2 + x) w) := by
  have hb1 := HB1.out.span k1 (k1 + x) (by omega) hp1
  have hb2 := HB2.out.span k2 (k2 + x) (by omega) hp2
  rw [show k1 + x - k1 = x from by omega] at hb1
  rw [show k2 + x - k2 = x from by omega] at hb2
  have HEQ : Hid (∀ q, Calls Try.prog 14 #[.slice (some ⟨b1, o1 + k1, none⟩) x (c1 - k1), .slice (some ⟨b2, o2 + k2, none⟩) x (c2 - k2)] (w.drewN q) fun e w' => e = .returned (.bool (sameB ((l1.drop k1).take x) ((l2.drop k2).take x))) ∧ ∃ q', w' = (w.drewN q).drewN q') := fun q => equal_any _ x (c1 - k1) _ _ x (c2 - k2) _ _ (hb1.drawn q) (hb2.drawn q) (by omega) (by omega)
  clear hb1 hb2 HB1 HB2
  have n1' : ¬ c1 = k1 := by omega
  have n2' : ¬ c2 = k2 := by omega
  have j1 : (k1 : Int) ≤ k1 + x := by omega
  have j2 : (k1 : Int) + x ≤ c1 := by omega
  have j3 : (k2 : Int) ≤ k2 + x := by omega
  have j4 : (k2 : Int) + x ≤ c2 := by omega
  cases hs : sameB ((l1.drop k1).take x) ((l2.drop k2).take x) with
  | true =>
    rw [hs] at HEQ
    have HY : Hid R := HIFF.out.2 (by simpa [sameB] using hs)
    clear hs HIFF
    go_enter Try.func13, Try.ntmps13
    go_wp2_with fail
    refine Calls.mono HR1.out ?_
    clear HR1
    rintro e w' ⟨rfl, hw'⟩
    obtain rfl : w = w' := hw'.symm
    clear hw'
    go_wp2_with fail
    refine Calls.mono HR2.out ?_
    clear HR2
    rintro e w' ⟨rfl, hw'⟩
    obtain rfl : w = w' := hw'.symm
    clear hw'
    go_wp2_with fail
    go_quiet (first | (go_at_call 14; exact Calls.quiet_of (HEQ.out _)))
    go_wp2_with fail
    go_ret3
    exact SemRes.yes HY.out (below_drewN (Below.refl _ _) _) (by omega) (by omega)
  | false =>
    rw [hs] at HEQ
    have HN : Hid (¬ R) := fun h => by
      have := HIFF.out.1 h
      simp [sameB, this] at hs
    clear hs HIFF
    go_enter Try.func13, Try.ntmps13
    go_wp2_with fail
    refine Calls.mono HR1.out ?_
    clear HR1
    rintro e w' ⟨rfl, hw'⟩
    obtain rfl : w = w' := hw'.symm
    clear hw'
    go_wp2_with fail
    refine Calls.mono HR2.out ?_
    clear HR2
    rintro e w' ⟨rfl, hw'⟩
    obtain rfl : w = w' := hw'.symm
    clear hw'
    go_wp2_with fail
    go_quiet (first | (go_at_call 14; exact Calls.quiet_of (HEQ.out _)))
    go_wp2_with fail
    go_ret3
    exact SemRes.no HN.out (below_drewN (Below.refl _ _) _)
set_option maxHeartbeats 1000000 in
set_option maxRecDepth 100000 in
theorem sem_2e (R : Prop) (b1 o1 n1 c1 b2 o2 n2 c2 : Nat) (w : World) (p1 k1 i1 p2 k2 i2 : Nat) (hp1 : k1 ≤ c1) (hp2 : k2 ≤ c2) (hcc1 : c1 ≤ 9223372036854775807) (hcc2 : c2 ≤ 9223372036854775807) (HR1 : Hid (ReadC b1 o1 n1 c1 p1 k1 2 i1 0 w)) (HR2 : Hid (ReadC b2 o2 n2 c2 p2 k2 2 i2 0 w)) (HY : Hid R) :
    Calls Try.prog 13 #[.slice (some ⟨b1, o1, none⟩) n1 c1, .int .i64 (p1 : Nat), .slice (some ⟨b2, o2, none⟩) n2 c2, .int .i64 (p2 : Nat)] w (SemRes R k1 k2 w) := by
  have HEQ : Hid (∀ q a1 d1 a2 d2, Calls Try.prog 14 #[.slice a1 0 d1, .slice a2 0 d2] (w.drewN q) fun e w' => e = .returned (.bool (sameB [] [])) ∧ ∃ q', w' = (w.drewN q).drewN q') := fun q a1 d1 a2 d2 => equal_any a1 0 d1 [] a2 0 d2 [] _ ⟨rfl, fun h => by omega⟩ ⟨rfl, fun h => by omega⟩ (by omega) (by omega)
  rw [show sameB [] [] = true from by simp [sameB]] at HEQ
  have j2 : (k1 : Int) ≤ c1 := by omega
  have j4 : (k2 : Int) ≤ c2 := by omega
  by_cases n1' : c1 = k1
  · subst n1'
    by_cases n2' : c2 = k2
    · subst n2'
      go_enter Try.func13, Try.ntmps13
      go_wp2_with fail
      refine Calls.mono HR1.out ?_
      clear HR1
      rintro e w' ⟨rfl, hw'⟩
      obtain rfl : w = w' := hw'.symm
      clear hw'
      go_wp2_with fail
      refine Calls.mono HR2.out ?_
      clear HR2
      rintro e w' ⟨rfl, hw'⟩
      obtain rfl : w = w' := hw'.symm
      clear hw'
      go_wp2_with fail
      go_quiet (first | (go_at_call 14; exact Calls.quiet_of (HEQ.out _ _ _ _ _)))
      go_wp2_with fail
      go_ret3
      exact SemRes.yes HY.out (below_drewN (Below.refl _ _) _) rfl rfl
    · skip
      go_enter Try.func13, Try.ntmps13
      go_wp2_with fail
      refine Calls.mono HR1.out ?_
      clear HR1
      rintro e w' ⟨rfl, hw'⟩
      obtain rfl : w = w' := hw'.symm
      clear hw'
      go_wp2_with fail
      refine Calls.mono HR2.out ?_
      clear HR2
      rintro e w' ⟨rfl, hw'⟩
      obtain rfl : w = w' := hw'.symm
      clear hw'
      go_wp2_with fail
      go_quiet (first | (go_at_call 14; exact Calls.quiet_of (HEQ.out _ _ _ _ _)))
      go_wp2_with fail
      go_ret3
      exact SemRes.yes HY.out (below_drewN (Below.refl _ _) _) rfl rfl
  · by_cases n2' : c2 = k2
    · subst n2'
      go_enter Try.func13, Try.ntmps13
      go_wp2_with fail
      refine Calls.mono HR1.out ?_
      clear HR1
      rintro e w' ⟨rfl, hw'⟩
      obtain rfl : w = w' := hw'.symm
      clear hw'
      go_wp2_with fail
      refine Calls.mono HR2.out ?_
      clear HR2
      rintro e w' ⟨rfl, hw'⟩
      obtain rfl : w = w' := hw'.symm
      clear hw'
      go_wp2_with fail
      go_quiet (first | (go_at_call 14; exact Calls.quiet_of (HEQ.out _ _ _ _ _)))
      go_wp2_with fail
      go_ret3
      exact SemRes.yes HY.out (below_drewN (Below.refl _ _) _) rfl rfl
    · skip
      go_enter Try.func13, Try.ntmps13
      go_wp2_with fail
      refine Calls.mono HR1.out ?_
      clear HR1
      rintro e w' ⟨rfl, hw'⟩
      obtain rfl : w = w' := hw'.symm
      clear hw'
      go_wp2_with fail
      refine Calls.mono HR2.out ?_
      clear HR2
      rintro e w' ⟨rfl, hw'⟩
      obtain rfl : w = w' := hw'.symm
      clear hw'
      go_wp2_with fail
      go_quiet (first | (go_at_call 14; exact Calls.quiet_of (HEQ.out _ _ _ _ _)))
      go_wp2_with fail
      go_ret3
      exact SemRes.yes HY.out (below_drewN (Below.refl _ _) _) rfl rfl
set_option maxHeartbeats 1000000 in
set_option maxRecDepth 100000 in
theorem sem_3 (R : Prop) (b1 o1 n1 c1 b2 o2 n2 c2 : Nat) (w : World) (p1 k1 i1 p2 k2 i2 x : Nat) (l1 l2 : List UInt8) (HB1 : Hid (BytesAt w (some ⟨b1, o1, none⟩) n1 l1)) (HB2 : Hid (BytesAt w (some ⟨b2, o2, none⟩) n2 l2)) (hn1 : n1 ≤ 1099511627776) (hn2 : n2 ≤ 1099511627776) (hc1 : n1 ≤ c1) (hc2 : n2 ≤ c2)
    (hx0 : 0 < x) (hp1 : k1 + x ≤ n1) (hp2 : k2 + x ≤ n2) (HR1 : Hid (ReadC b1 o1 n1 c1 p1 k1 3 i1 x w)) (HR2 : Hid (ReadC b2 o2 n2 c2 p2 k2 3 i2 x w)) (HIFF : Hid (R ↔ (l1.drop k1).take x = (l2.drop k2).take x)) :
    Calls Try.prog 13 #[.slice (some ⟨b1, o1, none⟩) n1 c1, .int .i64 (p1 : Nat), .slice (some ⟨b2, o2, none⟩) n2 c2, .int .i64 (p2 : Nat)] w (SemRes R (k1 + x) (k2 + x) w) := by
  have hb1 := HB1.out.span k1 (k1 + x) (by omega) hp1
  have hb2 := HB2.out.span k2 (k2 + x) (by omega) hp2
  rw [show k1 + x - k1 = x from by omega] at hb1
  rw [show k2 + x - k2 = x from by omega] at hb2
  have HEQ : Hid (∀ q, Calls Try.prog 14 #[.slice (some ⟨b1, o1 + k1, none⟩) x (c1 - k1), .slice (some ⟨b2, o2 + k2, none⟩) x (c2 - k2)] (w.drewN q) fun e w' => e = .returned (.bool (sameB ((l1.drop k1).take x) ((l2.drop k2).take x))) ∧ ∃ q', w' = (w.drewN q).drewN q') := fun q => equal_any _ x (c1 - k1) _ _ x (c2 - k2) _ _ (hb1.drawn q) (hb2.drawn q) (by omega) (by omega)
  clear hb1 hb2 HB1 HB2
  have n1' : ¬ c1 = k1 := by omega
  have n2' : ¬ c2 = k2 := by omega
  have j1 : (k1 : Int) ≤ k1 + x := by omega
  have j2 : (k1 : Int) + x ≤ c1 := by omega
  have j3 : (k2 : Int) ≤ k2 + x := by omega
  have j4 : (k2 : Int) + x ≤ c2 := by omega
  cases hs : sameB ((l1.drop k1).take x) ((l2.drop k2).take x) with
  | true =>
    rw [hs] at HEQ
    have HY : Hid R := HIFF.out.2 (by simpa [sameB] using hs)
    clear hs HIFF
    go_enter Try.func13, Try.ntmps13
    go_wp2_with fail
    refine Calls.mono HR1.out ?_
    clear HR1
    rintro e w' ⟨rfl, hw'⟩
    obtain rfl : w = w' := hw'.symm
    clear hw'
    go_wp2_with fail
    refine Calls.mono HR2.out ?_
    clear HR2
    rintro e w' ⟨rfl, hw'⟩
    obtain rfl : w = w' := hw'.symm
    clear hw'
    go_wp2_with fail
    go_quiet (first | (go_at_call 14; exact Calls.quiet_of (HEQ.out _)))
    go_wp2_with fail
    go_ret3
    exact SemRes.yes HY.out (below_drewN (Below.refl _ _) _) (by omega) (by omega)
  | false =>
    rw [hs] at HEQ
    have HN : Hid (¬ R) := fun h => by
      have := HIFF.out.1 h
      simp [sameB, this] at hs
    clear hs HIFF
    go_enter Try.func13, Try.ntmps13
    go_wp2_with fail
    refine Calls.mono HR1.out ?_
    clear HR1
    rintro e w' ⟨rfl, hw'⟩
    obtain rfl : w = w' := hw'.symm
    clear hw'
    go_wp2_with fail
    refine Calls.mono HR2.out ?_
    clear HR2
    rintro e w' ⟨rfl, hw'⟩
    obtain rfl : w = w' := hw'.symm
    clear hw'
    go_wp2_with fail
    go_quiet (first | (go_at_call 14; exact Calls.quiet_of (HEQ.out _)))
    go_wp2_with fail
    go_ret3
    exact SemRes.no HN.out (below_drewN (Below.refl _ _) _)
set_option maxHeartbeats 1000000 in
set_option maxRecDepth 100000 in
theorem sem_3e (R : Prop) (b1 o1 n1 c1 b2 o2 n2 c2 : Nat) (w : World) (p1 k1 i1 p2 k2 i2 : Nat) (hp1 : k1 ≤ c1) (hp2 : k2 ≤ c2) (hcc1 : c1 ≤ 9223372036854775807) (hcc2 : c2 ≤ 9223372036854775807) (HR1 : Hid (ReadC b1 o1 n1 c1 p1 k1 3 i1 0 w)) (HR2 : Hid (ReadC b2 o2 n2 c2 p2 k2 3 i2 0 w)) (HY : Hid R) :
    Calls Try.prog 13 #[.slice (some ⟨b1, o1, none⟩) n1 c1, .int .i64 (p1 : Nat), .slice (some ⟨b2, o2, none⟩) n2 c2, .int .i64 (p2 : Nat)] w (SemRes R k1 k2 w) := by
  have HEQ : Hid (∀ q a1 d1 a2 d2, Calls Try.prog 14 #[.slice a1 0 d1, .slice a2 0 d2] (w.drewN q) fun e w' => e = .returned (.bool (sameB [] [])) ∧ ∃ q', w' = (w.drewN q).drewN q') := fun q a1 d1 a2 d2 => equal_any a1 0 d1 [] a2 0 d2 [] _ ⟨rfl, fun h => by omega⟩ ⟨rfl, fun h => by omega⟩ (by omega) (by omega)
  rw [show sameB [] [] = true from by simp [sameB]] at HEQ
  have j2 : (k1 : Int) ≤ c1 := by omega
  have j4 : (k2 : Int) ≤ c2 := by omega
  by_cases n1' : c1 = k1
  · subst n1'
    by_cases n2' : c2 = k2
    · subst n2'
      go_enter Try.func13, Try.ntmps13
      go_wp2_with fail
      refine Calls.mono HR1.out ?_
      clear HR1
      rintro e w' ⟨rfl, hw'⟩
      obtain rfl : w = w' := hw'.symm
      clear hw'
      go_wp2_with fail
      refine Calls.mono HR2.out ?_
      clear HR2
      rintro e w' ⟨rfl, hw'⟩
      obtain rfl : w = w' := hw'.symm
      clear hw'
      go_wp2_with fail
      go_quiet (first | (go_at_call 14; exact Calls.quiet_of (HEQ.out _ _ _ _ _)))
      go_wp2_with fail
      go_ret3
      exact SemRes.yes HY.out (below_drewN (Below.refl _ _) _) rfl rfl
    · skip
      go_enter Try.func13, Try.ntmps13
      go_wp2_with fail
      refine Calls.mono HR1.out ?_
      clear HR1
      rintro e w' ⟨rfl, hw'⟩
      obtain rfl : w = w' := hw'.symm
      clear hw'
      go_wp2_with fail
      refine Calls.mono HR2.out ?_
      clear HR2
      rintro e w' ⟨rfl, hw'⟩
      obtain rfl : w = w' := hw'.symm
      clear hw'
      go_wp2_with fail
      go_quiet (first | (go_at_call 14; exact Calls.quiet_of (HEQ.out _ _ _ _ _)))
      go_wp2_with fail
      go_ret3
      exact SemRes.yes HY.out (below_drewN (Below.refl _ _) _) rfl rfl
  · by_cases n2' : c2 = k2
    · subst n2'
      go_enter Try.func13, Try.ntmps13
      go_wp2_with fail
      refine Calls.mono HR1.out ?_
      clear HR1
      rintro e w' ⟨rfl, hw'⟩
      obtain rfl : w = w' := hw'.symm
      clear hw'
      go_wp2_with fail
      refine Calls.mono HR2.out ?_
      clear HR2
      rintro e w' ⟨rfl, hw'⟩
      obtain rfl : w = w' := hw'.symm
      clear hw'
      go_wp2_with fail
      go_quiet (first | (go_at_call 14; exact Calls.quiet_of (HEQ.out _ _ _ _ _)))
      go_wp2_with fail
      go_ret3
      exact SemRes.yes HY.out (below_drewN (Below.refl _ _) _) rfl rfl
    · skip
      go_enter Try.func13, Try.ntmps13
      go_wp2_with fail
      refine Calls.mono HR1.out ?_
      clear HR1
      rintro e w' ⟨rfl, hw'⟩
      obtain rfl : w = w' := hw'.symm
      clear hw'
      go_wp2_with fail
      refine Calls.mono HR2.out ?_
      clear HR2
      rintro e w' ⟨rfl, hw'⟩
      obtain rfl : w = w' := hw'.symm
      clear hw'
      go_wp2_with fail
      go_quiet (first | (go_at_call 14; exact Calls.quiet_of (HEQ.out _ _ _ _ _)))
      go_wp2_with fail
      go_ret3
      exact SemRes.yes HY.out (below_drewN (Below.refl _ _) _) rfl rfl
set_option maxHeartbeats 1000000 in
set_option maxRecDepth 100000 in
theorem sem_6 (R : Prop) (b1 o1 n1 c1 b2 o2 n2 c2 : Nat) (w : World) (p1 k1 i1 p2 k2 i2 x : Nat) (HR1 : Hid (ReadC b1 o1 n1 c1 p1 k1 6 i1 x w)) (HR2 : Hid (ReadC b2 o2 n2 c2 p2 k2 6 i2 x w)) (e1 e2 : Nat)
    (HC : Hid (Calls Try.prog 13 #[.slice (some ⟨b1, o1, none⟩) n1 c1, .int .i64 (k1 : Nat), .slice (some ⟨b2, o2, none⟩) n2 c2, .int .i64 (k2 : Nat)] w (SemRes R e1 e2 w))) :
    Calls Try.prog 13 #[.slice (some ⟨b1, o1, none⟩) n1 c1, .int .i64 (p1 : Nat), .slice (some ⟨b2, o2, none⟩) n2 c2, .int .i64 (p2 : Nat)] w (SemRes R e1 e2 w) := by
  go_enter Try.func13, Try.ntmps13
  go_wp2_with fail
  refine Calls.mono HR1.out ?_
  clear HR1
  rintro e w' ⟨rfl, hw'⟩
  obtain rfl : w = w' := hw'.symm
  clear hw'
  go_wp2_with fail
  refine Calls.mono HR2.out ?_
  clear HR2
  rintro e w' ⟨rfl, hw'⟩
  obtain rfl : w = w' := hw'.symm
  clear hw'
  go_wp2_with fail
  refine Calls.mono HC.out ?_
  clear HC
  rintro e w' ⟨t, r1, r2, rfl, h1, h2, h3⟩
  have H : Hid (SemRes R e1 e2 w (.returned (.tuple #[.bool t, .int .i64 r1, .int .i64 r2])) w') := ⟨t, r1, r2, rfl, h1, h2, h3⟩
  clear h1 h2 h3
  go_wp2_with fail
  go_ret3
  exact H.out
set_option maxHeartbeats 1000000 in
set_option maxRecDepth 100000 in
theorem sem_4 (rep : (α : Type) → List α → List α) (f : Nat) (R : Prop) (b1 o1 n1 c1 b2 o2 n2 c2 : Nat) (w : World) (p1 k1 i1 p2 k2 i2 x : Nat) (l1 l2 : List UInt8) (IH : Hid (SemC rep f b1 o1 n1 c1 l1 b2 o2 n2 c2 l2)) (HB1 : Hid (BytesAt w (some ⟨b1, o1, none⟩) n1 l1)) (HB2 : Hid (BytesAt w (some ⟨b2, o2, none⟩) n2 l2)) (C1 C2 : Nat) (_hn1 : n1 ≤ 1099511627776) (_hn2 : n2 ≤ 1099511627776) (_hp1 : k1 + C1 ≤ n1) (_hp2 : k2 + C2 ≤ n2)
    (HR1 : Hid (ReadC b1 o1 n1 c1 p1 k1 4 i1 x w)) (HR2 : Hid (ReadC b2 o2 n2 c2 p2 k2 4 i2 x w)) (HC1 : Hid (seqLen (itemLen f) x (l1.drop k1) = some C1)) (HC2 : Hid (seqLen (itemLen f) x (l2.drop k2) = some C2))
    (HIFF : Hid (R ↔ seqNf (nf rep f) (itemLen f) x (l1.drop k1) = seqNf (nf rep f) (itemLen f) x (l2.drop k2))) :
    Calls Try.prog 13 #[.slice (some ⟨b1, o1, none⟩) n1 c1, .int .i64 (p1 : Nat), .slice (some ⟨b2, o2, none⟩) n2 c2, .int .i64 (p2 : Nat)] w (SemRes R (k1 + C1) (k2 + C2) w) := by
  go_enter Try.func13, Try.ntmps13
  go_wp2_with fail
  refine Calls.mono HR1.out ?_
  clear HR1
  rintro e w' ⟨rfl, hw'⟩
  obtain rfl : w = w' := hw'.symm
  clear hw'
  go_wp2_with fail
  refine Calls.mono HR2.out ?_
  clear HR2
  rintro e w' ⟨rfl, hw'⟩
  obtain rfl : w = w' := hw'.symm
  clear hw'
  have HM1 : Hid (Mid f (l1.drop k1) 0 x 0 C1) := Mid.start HC1.out
  have HM2 : Hid (Mid f (l2.drop k2) 0 x 0 C2) := Mid.start HC2.out
  have hrc1 : x ≤ C1 := HM1.out.le.2
  have HF0 : Hid (R ↔ seqNf (nf rep f) (itemLen f) (x - 0) ((l1.drop k1).drop 0) = seqNf (nf rep f) (itemLen f) (x - 0) ((l2.drop k2).drop 0)) := HIFF.out
  have BB0 : Hid (Below w.heap.size w w) := Below.refl _ _
  go_wp2_with fail
  go_loopw [14, 18, 21] (fun pv cv kv wr => ∃ j s1 d1 s2 d2 : Nat, j ≤ x ∧ kv = .int .u64 (j : Nat) ∧ pv = .int .i64 ((k1 + s1 : Nat)) ∧ cv = .int .i64 ((k2 + s2 : Nat)) ∧ s1 + d1 = C1 ∧ s2 + d2 = C2 ∧ Hid (Below w.heap.size w wr) ∧ Hid (Mid f (l1.drop k1) j (x - j) s1 d1) ∧ Hid (Mid f (l2.drop k2) j (x - j) s2 d2) ∧
    Hid (R ↔ seqNf (nf rep f) (itemLen f) (x - j) ((l1.drop k1).drop s1) = seqNf (nf rep f) (itemLen f) (x - j) ((l2.drop k2).drop s2))) (fun _ _ kv _ => x - (intOf kv).toNat)
  case atStart => exact ⟨0, 0, C1, 0, C2, by omega, rfl, rfl, rfl, by omega, by omega, BB0, HM1, HM2, HF0⟩
  case round =>
    obtain ⟨j, s1, d1, s2, d2, hj, rfl, rfl, rfl, hcd1, hcd2, BB, HJ1, HJ2, HF⟩ := hrel
    clear HM1 HM2 HF0 BB0 HC1 HC2
    by_cases hlt : j < x
    · have ex : x - j = (x - (j + 1)) + 1 := by omega
      rw [ex] at HJ1 HJ2 HF
      obtain ⟨a1, e1, ha1, rfl, hM1⟩ := HJ1.out.next
      obtain ⟨a2, e2, ha2, rfl, hM2⟩ := HJ2.out.next
      have hstep := HF.out
      rw [seqNf_succ ha1, seqNf_succ ha2, List.drop_drop, List.drop_drop, List.drop_drop, List.drop_drop, List.cons.injEq] at hstep
      rw [List.drop_drop] at ha1 ha2
      have HST : Hid (R ↔ nf rep f (l1.drop (k1 + s1)) = nf rep f (l2.drop (k2 + s2)) ∧ seqNf (nf rep f) (itemLen f) (x - (j + 1)) (l1.drop (k1 + s1 + a1)) = seqNf (nf rep f) (itemLen f) (x - (j + 1)) (l2.drop (k2 + s2 + a2))) := hstep
      have HA : Hid (Calls Try.prog 13 #[.slice (some ⟨b1, o1, none⟩) n1 c1, .int .i64 ((k1 + s1 : Nat)), .slice (some ⟨b2, o2, none⟩) n2 c2, .int .i64 ((k2 + s2 : Nat))] wr (SemRes (nf rep f (l1.drop (k1 + s1)) = nf rep f (l2.drop (k2 + s2))) (k1 + s1 + a1) (k2 + s2 + a2) wr)) := IH.out wr _ a1 _ a2 (HB1.out.mono BB.out) (HB2.out.mono BB.out) ha1 ha2
      have HM1' : Hid (Mid f (l1.drop k1) (j + 1) (x - (j + 1)) (s1 + a1) e1) := hM1
      have HM2' : Hid (Mid f (l2.drop k2) (j + 1) (x - (j + 1)) (s2 + a2) e2) := hM2
      clear HJ1 HJ2 ha1 ha2 hM1 hM2 hstep HF
      go_wp2_with fail
      refine Calls.mono HA.out ?_
      clear HA
      rintro e w' ⟨t, r1, r2, rfl, h1, h2, h3⟩
      have BB' : Hid (Below w.heap.size w w') := BB.out.trans (h3.mono BB.out.size)
      cases t with
      | true =>
        obtain ⟨rfl, rfl⟩ := h2 rfl
        have HF' : Hid (R ↔ seqNf (nf rep f) (itemLen f) (x - (j + 1)) ((l1.drop k1).drop (s1 + a1)) = seqNf (nf rep f) (itemLen f) (x - (j + 1)) ((l2.drop k2).drop (s2 + a2))) := by
          have e := h1.1 rfl
          have t := HST.out
          rw [List.drop_drop, List.drop_drop, ← Nat.add_assoc, ← Nat.add_assoc]
          exact t.trans ⟨fun h => h.2, fun h => ⟨e, h⟩⟩
        clear h1 h2 h3 HST BB
        go_wp2_with fail
        go_round
        case rel => exact ⟨j + 1, s1 + a1, e1, s2 + a2, e2, by omega, by go_num, by go_num, by go_num, by omega, by omega, BB', HM1', HM2', HF'⟩
        case measure => simp [intOf]; omega
      | false =>
        have HN : Hid (¬ R) := fun h => by
          have := h1.2 (HST.out.1 h).1
          simp at this
        clear h1 h2 h3 HST BB
        go_wp2_with fail
        go_ret3
        exact SemRes.no HN.out BB'.out
    · obtain rfl : j = x := by omega
      rw [Nat.sub_self] at HJ1 HJ2 HF
      have hd1 := HJ1.out.done
      have hd2 := HJ2.out.done
      have HY : Hid R := HF.out.2 rfl
      go_wp2_with fail
      go_ret3
      exact SemRes.yes HY.out BB.out (by omega) (by omega)

end Go.Proofs.Qxb6604654a

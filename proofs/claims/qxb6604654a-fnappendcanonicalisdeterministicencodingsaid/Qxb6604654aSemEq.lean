/-
  zzSemEq: what it returns; its ways by the items' major types.
-/
import Derived.Test.Qxb6604654aSem
import Derived.Test.Qxb6604654aSkip
import Derived.Test.Qxb6604654aCompare
namespace Go.Proofs.Qxb6604654a
open Go.RowKit

theorem BytesAt.drawn {w : World} {ao : Option Addr} {n : Nat} {l : List UInt8} (h : BytesAt w ao n l) (q : Nat) : BytesAt (w.drewN q) ao n l := h.mono (below_drewN (Below.refl _ _) q)
theorem BytesAt.span {w : World} {b off n : Nat} {l : List UInt8} (h : BytesAt w (some ⟨b, off, none⟩) n l) (i j : Nat) (hij : i < j) (hj : j ≤ n) : BytesAt w (some ⟨b, off + i, none⟩) (j - i) ((l.drop i).take (j - i)) := by
  refine ⟨by rw [List.length_take, List.length_drop, h.len]; omega, fun _ => ?_⟩
  obtain ⟨b', off', e, hc⟩ := h.cells (by omega)
  simp only [Option.some.injEq, Addr.mk.injEq, and_true] at e
  obtain ⟨rfl, rfl⟩ := e
  refine ⟨b, off + i, rfl, fun k hk => ?_⟩
  rw [Nat.add_assoc, hc (i + k) (by omega)]
  unfold byteAt
  rw [List.getD, List.getD, List.getElem?_take, if_pos hk, List.getElem?_drop]

/-- Whether R, and if so the places e1 and e2; nothing that was there has turned. -/
def SemRes (R : Prop) (e1 e2 : Nat) (w : World) (e : Ending) (w' : World) : Prop :=
  ∃ (t : Bool) (r1 r2 : Int), e = .returned (.tuple #[.bool t, .int .i64 r1, .int .i64 r2]) ∧ (t = true ↔ R) ∧ (t = true → r1 = (e1 : Nat) ∧ r2 = (e2 : Nat)) ∧ Below w.heap.size w w'
theorem SemRes.no {R : Prop} {e1 e2 : Nat} {w w' : World} (h : ¬ R) (hb : Below w.heap.size w w') : SemRes R e1 e2 w (.returned (.tuple #[.bool false, .int .i64 0, .int .i64 0])) w' := ⟨false, 0, 0, rfl, by simp [h], by simp, hb⟩
theorem SemRes.yes {R : Prop} {e1 e2 : Nat} {w w' : World} {r1 r2 : Int} (h : R) (hb : Below w.heap.size w w') (h1 : r1 = (e1 : Nat)) (h2 : r2 = (e2 : Nat)) : SemRes R e1 e2 w (.returned (.tuple #[.bool true, .int .i64 r1, .int .i64 r2])) w' := ⟨true, r1, r2, rfl, by simp [h], fun _ => ⟨h1, h2⟩, hb⟩

def SemC (rep : (α : Type) → List α → List α) (f b1 o1 n1 c1 : Nat) (l1 : List UInt8) (b2 o2 n2 c2 : Nat) (l2 : List UInt8) : Prop :=
  ∀ (w : World) (p1 a1 p2 a2 : Nat), BytesAt w (some ⟨b1, o1, none⟩) n1 l1 → BytesAt w (some ⟨b2, o2, none⟩) n2 l2 → itemLen f (l1.drop p1) = some a1 → itemLen f (l2.drop p2) = some a2 →
    Calls Try.prog 13 #[.slice (some ⟨b1, o1, none⟩) n1 c1, .int .i64 (p1 : Nat), .slice (some ⟨b2, o2, none⟩) n2 c2, .int .i64 (p2 : Nat)] w (SemRes (nf rep f (l1.drop p1) = nf rep f (l2.drop p2)) (p1 + a1) (p2 + a2) w)

/-- The head that is read at a place. -/
def ReadC (b o n c p k m i x : Nat) (w : World) : Prop :=
  Calls Try.prog 20 #[.slice (some ⟨b, o, none⟩) n c, .int .i64 (p : Nat)] w fun e w' => e = .returned (.tuple #[.int .u8 (m : Nat), .int .u8 (i : Nat), .int .u64 (x : Nat), .int .i64 (k : Nat)]) ∧ w' = w
set_option maxHeartbeats 1000000 in
set_option maxRecDepth 100000 in
theorem sem_ne (R : Prop) (b1 o1 n1 c1 b2 o2 n2 c2 : Nat) (w : World) (p1 k1 i1 x1 p2 k2 i2 x2 : Nat) (m1 m2 e1 e2 : Nat) (HR1 : Hid (ReadC b1 o1 n1 c1 p1 k1 m1 i1 x1 w)) (HR2 : Hid (ReadC b2 o2 n2 c2 p2 k2 m2 i2 x2 w)) (hne : m1 ≠ m2) (HN : Hid (¬ R)) :
    Calls Try.prog 13 #[.slice (some ⟨b1, o1, none⟩) n1 c1, .int .i64 (p1 : Nat), .slice (some ⟨b2, o2, none⟩) n2 c2, .int .i64 (p2 : Nat)] w (SemRes R e1 e2 w) := by
  have hi : ((m1 : Int) == (m2 : Int)) = false := by simp; omega
  go_enter Try.func13, Try.ntmps13
  go_wp2_with fail
  refine Calls.mono HR1.out ?_
  clear HR1
  rintro e w' ⟨rfl, hw'⟩
  obtain rfl : w = w' := hw'.symm
  clear hw'
  go_wp2_with fail
  refine Calls.mono HR2.out ?_
  clear HR2
  rintro e w' ⟨rfl, hw'⟩
  obtain rfl : w = w' := hw'.symm
  clear hw'
  go_wp2_with fail
  go_ret3
  exact SemRes.no HN.out (Below.refl _ _)
set_option maxHeartbeats 1000000 in
set_option maxRecDepth 100000 in
theorem sem_arg (R : Prop) (b1 o1 n1 c1 b2 o2 n2 c2 : Nat) (w : World) (p1 k1 i1 x1 p2 k2 i2 x2 : Nat) (m e1 e2 : Nat) (HR1 : Hid (ReadC b1 o1 n1 c1 p1 k1 m i1 x1 w)) (HR2 : Hid (ReadC b2 o2 n2 c2 p2 k2 m i2 x2 w)) (h7 : m ≠ 7) (hne : x1 ≠ x2) (HN : Hid (¬ R)) :
    Calls Try.prog 13 #[.slice (some ⟨b1, o1, none⟩) n1 c1, .int .i64 (p1 : Nat), .slice (some ⟨b2, o2, none⟩) n2 c2, .int .i64 (p2 : Nat)] w (SemRes R e1 e2 w) := by
  have hi : ((m : Int) == (7 : Int)) = false := by simp; omega
  have hx : ((x1 : Int) == (x2 : Int)) = false := by simp; omega
  go_enter Try.func13, Try.ntmps13
  go_wp2_with fail
  refine Calls.mono HR1.out ?_
  clear HR1
  rintro e w' ⟨rfl, hw'⟩
  obtain rfl : w = w' := hw'.symm
  clear hw'
  go_wp2_with fail
  refine Calls.mono HR2.out ?_
  clear HR2
  rintro e w' ⟨rfl, hw'⟩
  obtain rfl : w = w' := hw'.symm
  clear hw'
  go_wp2_with fail
  go_ret3
  exact SemRes.no HN.out (Below.refl _ _)
set_option maxHeartbeats 1000000 in
set_option maxRecDepth 100000 in
theorem sem_0 (R : Prop) (b1 o1 n1 c1 b2 o2 n2 c2 : Nat) (w : World) (p1 k1 i1 x p2 k2 i2 : Nat) (HR1 : Hid (ReadC b1 o1 n1 c1 p1 k1 0 i1 x w)) (HR2 : Hid (ReadC b2 o2 n2 c2 p2 k2 0 i2 x w)) (HY : Hid R) :
    Calls Try.prog 13 #[.slice (some ⟨b1, o1, none⟩) n1 c1, .int .i64 (p1 : Nat), .slice (some ⟨b2, o2, none⟩) n2 c2, .int .i64 (p2 : Nat)] w (SemRes R k1 k2 w) := by
  go_enter Try.func13, Try.ntmps13
  go_wp2_with fail
  refine Calls.mono HR1.out ?_
  clear HR1
  rintro e w' ⟨rfl, hw'⟩
  obtain rfl : w = w' := hw'.symm
  clear hw'
  go_wp2_with fail
  refine Calls.mono HR2.out ?_
  clear HR2
  rintro e w' ⟨rfl, hw'⟩
  obtain rfl : w = w' := hw'.symm
  clear hw'
  go_wp2_with fail
  go_ret3
  exact SemRes.yes HY.out (Below.refl _ _) rfl rfl
set_option maxHeartbeats 1000000 in
set_option maxRecDepth 100000 in
theorem sem_1 (R : Prop) (b1 o1 n1 c1 b2 o2 n2 c2 : Nat) (w : World) (p1 k1 i1 x p2 k2 i2 : Nat) (HR1 : Hid (ReadC b1 o1 n1 c1 p1 k1 1 i1 x w)) (HR2 : Hid (ReadC b2 o2 n2 c2 p2 k2 1 i2 x w)) (HY : Hid R) :
    Calls Try.prog 13 #[.slice (some ⟨b1, o1, none⟩) n1 c1, .int .i64 (p1 : Nat), .slice (some ⟨b2, o2, none⟩) n2 c2, .int .i64 (p2 : Nat)] w (SemRes R k1 k2 w) := by
  go_enter Try.func13, Try.ntmps13
  go_wp2_with fail
  refine Calls.mono HR1.out ?_
  clear HR1
  rintro e w' ⟨rfl, hw'⟩
  obtain rfl : w = w' := hw'.symm
  clear hw'
  go_wp2_with fail
  refine Calls.mono HR2.out ?_
  clear HR2
  rintro e w' ⟨rfl, hw'⟩
  obtain rfl : w = w' := hw'.symm
  clear hw'
  go_wp2_with fail
  go_ret3
  exact SemRes.yes HY.out (Below.refl _ _) rfl rfl
set_option maxHeartbeats 1000000 in
set_option maxRecDepth 100000 in
theorem sem_7 (R : Prop) (b1 o1 n1 c1 b2 o2 n2 c2 : Nat) (w : World) (p1 k1 i1 x1 p2 k2 i2 x2 : Nat) (l1 l2 : List UInt8) (HB1 : Hid (BytesAt w (some ⟨b1, o1, none⟩) n1 l1)) (HB2 : Hid (BytesAt w (some ⟨b2, o2, none⟩) n2 l2)) (hn1 : n1 ≤ 1099511627776) (hn2 : n2 ≤ 1099511627776) (hc1 : n1 ≤ c1) (hc2 : n2 ≤ c2)
    (hq1 : p1 < k1) (hq2 : p2 < k2) (hp1 : k1 ≤ n1) (hp2 : k2 ≤ n2) (HR1 : Hid (ReadC b1 o1 n1 c1 p1 k1 7 i1 x1 w)) (HR2 : Hid (ReadC b2 o2 n2 c2 p2 k2 7 i2 x2 w)) (HIFF : Hid (R ↔ (l1.drop p1).take (k1 - p1) = (l2.drop p2).take (k2 - p2))) :
    Calls Try.prog 13 #[.slice (some ⟨b1, o1, none⟩) n1 c1, .int .i64 (p1 : Nat), .slice (some ⟨b2, o2, none⟩) n2 c2, .int .i64 (p2 : Nat)] w (SemRes R k1 k2 w) := by
  have hb1 := HB1.out.span p1 k1 (by omega) hp1
  have hb2 := HB2.out.span p2 k2 (by omega) hp2
  have HEQ : Hid (∀ q, Calls Try.prog 14 #[.slice (some ⟨b1, o1 + p1, none⟩) (k1 - p1) (c1 - p1), .slice (some ⟨b2, o2 + p2, none⟩) (k2 - p2) (c2 - p2)] (w.drewN q) fun e w' => e = .returned (.bool (sameB ((l1.drop p1).take (k1 - p1)) ((l2.drop p2).take (k2 - p2)))) ∧ ∃ q', w' = (w.drewN q).drewN q') := fun q => equal_any _ (k1 - p1) (c1 - p1) _ _ (k2 - p2) (c2 - p2) _ _ (hb1.drawn q) (hb2.drawn q) (by omega) (by omega)
  clear hb1 hb2 HB1 HB2
  have n1' : ¬ c1 = p1 := by omega
  have n2' : ¬ c2 = p2 := by omega
  have j1 : (p1 : Int) ≤ k1 := by omega
  have j2 : (k1 : Int) ≤ c1 := by omega
  have j3 : (p2 : Int) ≤ k2 := by omega
  have j4 : (k2 : Int) ≤ c2 := by omega
  cases hs : sameB ((l1.drop p1).take (k1 - p1)) ((l2.drop p2).take (k2 - p2)) with
  | true =>
    rw [hs] at HEQ
    have HY : Hid R := HIFF.out.2 (by simpa [sameB] using hs)
    clear hs HIFF
    go_enter Try.func13, Try.ntmps13
    go_wp2_with fail
    refine Calls.mono HR1.out ?_
    clear HR1
    rintro e w' ⟨rfl, hw'⟩
    obtain rfl : w = w' := hw'.symm
    clear hw'
    go_wp2_with fail
    refine Calls.mono HR2.out ?_
    clear HR2
    rintro e w' ⟨rfl, hw'⟩
    obtain rfl : w = w' := hw'.symm
    clear hw'
    go_wp2_with fail
    go_quiet (first | (go_at_call 14; exact Calls.quiet_of (HEQ.out _)))
    go_wp2_with fail
    go_ret3
    exact SemRes.yes HY.out (below_drewN (Below.refl _ _) _) rfl rfl
  | false =>
    rw [hs] at HEQ
    have HN : Hid (¬ R) := fun h => by
      have := HIFF.out.1 h
      simp [sameB, this] at hs
    clear hs HIFF
    go_enter Try.func13, Try.ntmps13
    go_wp2_with fail
    refine Calls.mono HR1.out ?_
    clear HR1
    rintro e w' ⟨rfl, hw'⟩
    obtain rfl : w = w' := hw'.symm
    clear hw'
    go_wp2_with fail
    refine Calls.mono HR2.out ?_
    clear HR2
    rintro e w' ⟨rfl, hw'⟩
    obtain rfl : w = w' := hw'.symm
    clear hw'
    go_wp2_with fail
    go_quiet (first | (go_at_call 14; exact Calls.quiet_of (HEQ.out _)))
    go_wp2_with fail
    go_ret3
    exact SemRes.no HN.out (below_drewN (Below.refl _ _) _)

end Go.Proofs.Qxb6604654a

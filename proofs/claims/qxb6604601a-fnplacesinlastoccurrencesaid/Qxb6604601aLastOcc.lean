/-
  FnPlacesInLastOccurrence: the law's walk.
-/
import Derived.Test.Qxb6604601aPlaces
import Derived.WalkSmall
namespace Go.Proofs.Qxb6604601a
open Go.RowKit

theorem IntsAt.mono {w w' : World} {ao : Option Addr} {n : Nat} {F : Nat → Nat} (h : IntsAt w ao n F) (hb : Below w.heap.size w w') : IntsAt w' ao n F := by
  refine ⟨fun hn => ?_⟩
  obtain ⟨b, off, e, hc⟩ := h.cells hn
  refine ⟨b, off, e, fun k hk => ?_⟩
  have hlt : b < w.heap.size := World.block_lt_of_cell? w ⟨b, off + k, none⟩ (hc k hk)
  exact (hb.cell (p := ⟨b, off + k, none⟩) hlt).trans (hc k hk)

set_option maxHeartbeats 1000000 in
theorem last_walk (ao : Option Addr) (n cap : Nat) (S : Nat → ByteArray) (ao2 : Option Addr) (n2 cap2 : Nat) (S2 : Nat → ByteArray) (w : World) (h : StrsAt w ao n S) (h2 : StrsAt w ao2 n2 S2)
    (hn : n ≤ 9223372036854775807) (hn2 : n2 ≤ 9223372036854775807) :
    Calls Try.prog 7 #[.slice ao n cap, .slice ao2 n2 cap2] w fun e w' => e = .returned (.bool true) ∧ Below w.heap.size w w' := by
  have HS : Hid (StrsAt w ao n S) := h
  have HS2 : Hid (StrsAt w ao2 n2 S2) := h2
  clear h h2
  go_enter Try.func7, Try.ntmps7
  go_wp2_with fail
  refine (bytesLast_any ao n cap S ao2 n2 cap2 S2 w HS.out HS2.out hn hn2).mono ?_
  rintro e w' ⟨⟨t, rfl⟩, hw⟩
  obtain rfl : w = w' := hw.symm
  clear hw
  cases t with
  | false =>
    go_wp2
    go_ret
    exact ⟨rfl, Below.refl _ _⟩
  | true =>
    by_cases g1 : 1024 < n
    · have g1' : (1024 : Int) < n := by omega
      go_wp2
      go_ret
      exact ⟨rfl, Below.refl _ _⟩
    have g1d : decide ((1024 : Int) < n) = false := by simp; omega
    by_cases g2 : 1024 < n2
    · have g2' : (1024 : Int) < n2 := by omega
      go_wp2
      go_ret
      exact ⟨rfl, Below.refl _ _⟩
    have g2d : decide ((1024 : Int) < n2) = false := by simp; omega
    go_wp2_with fail
    refine (strBytes_any ao n cap S w HS.out hn).mono ?_
    rintro e w' ⟨⟨z, rfl⟩, hw⟩
    obtain rfl : w = w' := hw.symm
    clear hw
    by_cases g3 : 524288 < z
    · go_wp2
      go_ret
      exact ⟨rfl, Below.refl _ _⟩
    have g3d : decide (524288 < z) = false := by simp; omega
    go_wp2_with fail
    refine (strBytes_any ao2 n2 cap2 S2 w HS2.out hn2).mono ?_
    rintro e w' ⟨⟨z2, rfl⟩, hw⟩
    obtain rfl : w = w' := hw.symm
    clear hw
    by_cases g4 : 524288 < z2
    · go_wp2
      go_ret
      exact ⟨rfl, Below.refl _ _⟩
    have g4d : decide (524288 < z2) = false := by simp; omega
    go_wp2_with fail
    refine (clone_any ao n cap S w HS.out (by omega)).mono ?_
    rintro e w1 ⟨ao3, cap3, rfl, hs3, hb1⟩
    have HS' : Hid (StrsAt w1 ao3 n S) := hs3
    have HS2' : Hid (StrsAt w1 ao2 n2 S2) := HS2.out.mono hb1
    have HB1 : Hid (Below w.heap.size w w1) := hb1
    clear HS HS2 hs3 hb1
    go_wp2_with fail
    refine (clone_any ao2 n2 cap2 S2 w1 HS2'.out (by omega)).mono ?_
    rintro e w2 ⟨ao4, cap4, rfl, hs4, hb2⟩
    have HS : Hid (StrsAt w2 ao3 n S) := HS'.out.mono hb2
    have HS2 : Hid (StrsAt w2 ao4 n2 S2) := hs4
    have HB2 : Hid (Below w.heap.size w w2) := HB1.out.trans (hb2.mono HB1.out.size)
    clear HS' HS2' hs4 hb2 HB1
    go_wp2_with fail
    refine (zzplaces_any ao3 n cap3 S ao4 n2 cap4 S2 w2 HS.out HS2.out (by omega) (by omega)).mono ?_
    rintro e w3 ⟨ao5, cap5, rfl, hi5, hb3⟩
    have HS' : Hid (StrsAt w3 ao3 n S) := HS.out.mono hb3
    have HS2' : Hid (StrsAt w3 ao4 n2 S2) := HS2.out.mono hb3
    have HI : Hid (IntsAt w3 ao5 n2 (fun j => lastIdx S (S2 j) n)) := hi5
    have HB3 : Hid (Below w.heap.size w w3) := HB2.out.trans (hb3.mono HB2.out.size)
    clear HS HS2 hi5 hb3 HB2
    go_wp2
    go_loopw [6] (fun i wr => ∃ k nq : Nat, k ≤ n2 ∧ i = .int .i64 k ∧ wr = w3.drewN nq) (fun i _ => n2 - (intOf i).toNat)
    case atStart => exact ⟨0, 0, Nat.zero_le _, rfl, rfl⟩
    case round =>
      obtain ⟨k, nq, hk, rfl, rfl⟩ := hrel
      by_cases hlt : k < n2
      · have HC : Hid (∃ u, True ∧ u = 0) := ⟨0, trivial, rfl⟩
        go_wp2
        go_loopw [7, 8] (fun wa jj wr => ∃ m nr : Nat, m ≤ n ∧ wa = .int .i64 0 ∧ jj = .int .i64 ((m : Int) - 1) ∧ Hid (lastIdx S (S2 k) n = lastIdx S (S2 k) m) ∧ wr = w3.drewN nr) (fun _ jj _ => (intOf jj + 1).toNat)
        case atStart => exact ⟨n, nq, Nat.le_refl _, rfl, rfl, rfl, rfl⟩
        case round =>
          obtain ⟨m, nr, hm, rfl, rfl, HL, rfl⟩ := hrel
          cases m with
          | zero =>
            obtain ⟨b5, off5, rfl, hc5⟩ := HI.out.cells (by omega)
            have hck : w3.cell? ⟨b5, off5 + k, none⟩ = some (.int .i64 0) := by rw [hc5 k hlt, HL.out]; rfl
            clear hc5
            go_wp2
            go_roundw
            case rel => exact ⟨k + 1, _, by omega, by go_num, rfl⟩
            case measure => simp [intOf]; omega
          | succ m =>
            obtain ⟨b5, off5, rfl, hc5⟩ := HI.out.cells (by omega)
            obtain ⟨b3, off3, rfl, hc3⟩ := HS'.out.cells (by omega)
            obtain ⟨b4, off4, rfl, hc4⟩ := HS2'.out.cells (by omega)
            have hk3 := hc3 m (by omega)
            have hk4 := hc4 k hlt
            rw [show ((m + 1 : Nat) : Int) - 1 = (m : Int) from by omega]
            cases hq : (S m).toList == (S2 k).toList with
            | true =>
              have hck : w3.cell? ⟨b5, off5 + k, none⟩ = some (.int .i64 m) := by rw [hc5 k hlt, HL.out, lastIdx_hit hq]
              clear hc5 hc3 hc4
              go_wp2
              go_quiet (fail)
              go_wp2
              go_roundw
              case rel => exact ⟨k + 1, _, by omega, by go_num, rfl⟩
              case measure => simp [intOf]; omega
            | false =>
              clear hc5 hc3 hc4
              go_wp2
              go_quiet (fail)
              go_wp2
              go_roundw
              case rel => exact ⟨m, _, by omega, rfl, by go_num, by rw [← lastIdx_miss hq]; exact HL, rfl⟩
              case measure => simp [intOf]
      · go_wp2
        go_ret
        exact ⟨rfl, below_drewN HB3.out nq⟩

end Go.Proofs.Qxb6604601a

/-
  FnPlacesInSelfLookup: the plain facts on lastIdx, and the law's walk.
-/
import Derived.Test.Qxb6604601aPlaces
import Derived.WalkSmall
namespace Go.Proofs.Qxb6604601a
open Go.RowKit

theorem lastIdx_ge {S : Nat → ByteArray} {nm : ByteArray} {k : Nat} (hk : ((S k).toList == nm.toList) = true) : ∀ m, k < m → k ≤ lastIdx S nm m
  | 0, h => by omega
  | m + 1, h => by
    cases hq : (S m).toList == nm.toList with
    | true => rw [lastIdx_hit hq]; omega
    | false =>
      rw [lastIdx_miss hq]
      have hne : k ≠ m := by
        intro e
        subst e
        rw [hk] at hq
        cases hq
      exact lastIdx_ge hk m (by omega)

theorem lastIdx_lt (S : Nat → ByteArray) (nm : ByteArray) : ∀ m, 0 < m → lastIdx S nm m < m
  | 0, h => by omega
  | m + 1, _ => by
    cases hq : (S m).toList == nm.toList with
    | true => rw [lastIdx_hit hq]; omega
    | false =>
      rw [lastIdx_miss hq]
      rcases Nat.eq_zero_or_pos m with e | e
      · subst e; exact Nat.zero_lt_one
      · have := lastIdx_lt S nm m e; omega

theorem lastIdx_eq {S : Nat → ByteArray} {nm : ByteArray} {k : Nat} (hk : ((S k).toList == nm.toList) = true) : ∀ m, k < m → ((S (lastIdx S nm m)).toList == nm.toList) = true
  | 0, h => by omega
  | m + 1, h => by
    cases hq : (S m).toList == nm.toList with
    | true => rw [lastIdx_hit hq]; exact hq
    | false =>
      rw [lastIdx_miss hq]
      have hne : k ≠ m := by
        intro e
        subst e
        rw [hk] at hq
        cases hq
      exact lastIdx_eq hk m (by omega)

theorem lastIdx_after {S : Nat → ByteArray} {nm : ByteArray} {j : Nat} : ∀ m, lastIdx S nm m < j → j < m → ((S j).toList == nm.toList) = false
  | 0, _, h => by omega
  | m + 1, h, hj => by
    cases hq : (S m).toList == nm.toList with
    | true => rw [lastIdx_hit hq] at h; omega
    | false =>
      rw [lastIdx_miss hq] at h
      by_cases e : j = m
      · subst e; exact hq
      · exact lastIdx_after m h (by omega)

set_option maxHeartbeats 1000000 in
theorem self_walk (ao : Option Addr) (n cap : Nat) (S : Nat → ByteArray) (w : World) (h : StrsAt w ao n S) (hn : n ≤ 9223372036854775807) :
    Calls Try.prog 8 #[.slice ao n cap] w fun e w' => e = .returned (.bool true) ∧ Below w.heap.size w w' := by
  have HS : Hid (StrsAt w ao n S) := h
  clear h
  go_enter Try.func8, Try.ntmps8
  go_wp2_with fail
  refine (bytesSelf_any ao n cap S w HS.out hn).mono ?_
  rintro e w' ⟨⟨t, rfl⟩, hw⟩
  obtain rfl : w = w' := hw.symm
  clear hw
  cases t with
  | false =>
    go_wp2
    go_ret
    exact ⟨rfl, Below.refl _ _⟩
  | true =>
    by_cases g1 : 1024 < n
    · have g1' : (1024 : Int) < n := by omega
      go_wp2
      go_ret
      exact ⟨rfl, Below.refl _ _⟩
    have g1d : decide ((1024 : Int) < n) = false := by simp; omega
    go_wp2_with fail
    refine (strBytes_any ao n cap S w HS.out hn).mono ?_
    rintro e w' ⟨⟨z, rfl⟩, hw⟩
    obtain rfl : w = w' := hw.symm
    clear hw
    by_cases g3 : 1048576 < z
    · go_wp2
      go_ret
      exact ⟨rfl, Below.refl _ _⟩
    have g3d : decide (1048576 < z) = false := by simp; omega
    go_wp2_with fail
    refine (clone_any ao n cap S w HS.out (by omega)).mono ?_
    rintro e w1 ⟨ao3, cap3, rfl, hs3, hb1⟩
    have HS1 : Hid (StrsAt w1 ao3 n S) := hs3
    have HB1 : Hid (Below w.heap.size w w1) := hb1
    clear HS hs3 hb1
    go_wp2_with fail
    refine (zzplaces_any ao3 n cap3 S ao3 n cap3 S w1 HS1.out HS1.out (by omega) (by omega)).mono ?_
    rintro e w3 ⟨ao5, cap5, rfl, hi5, hb3⟩
    have HS' : Hid (StrsAt w3 ao3 n S) := HS1.out.mono hb3
    have HI : Hid (IntsAt w3 ao5 n (fun j => lastIdx S (S j) n)) := hi5
    have HB3 : Hid (Below w.heap.size w w3) := HB1.out.trans (hb3.mono HB1.out.size)
    clear HS1 hi5 hb3 HB1
    go_wp2
    go_loopw [4] (fun i wr => ∃ k nq : Nat, k ≤ n ∧ i = .int .i64 k ∧ wr = w3.drewN nq) (fun i _ => n - (intOf i).toNat)
    case atStart => exact ⟨0, 0, Nat.zero_le _, rfl, rfl⟩
    case round =>
      obtain ⟨k, nq, hk, rfl, rfl⟩ := hrel
      by_cases hlt : k < n
      · obtain ⟨b5, off5, rfl, hc5⟩ := HI.out.cells (by omega)
        obtain ⟨b3, off3, rfl, hc3⟩ := HS'.out.cells (by omega)
        have hrefl : ((S k).toList == (S k).toList) = true := by simp
        have f1 := lastIdx_ge hrefl n hlt
        have f2 := lastIdx_lt S (S k) n (by omega)
        have f3 := lastIdx_eq hrefl n hlt
        have F4 : Hid (∀ j, lastIdx S (S k) n < j → j < n → ((S j).toList == (S k).toList) = false) := fun j => lastIdx_after n
        have h5 := hc5 k hlt
        have h3k := hc3 k hlt
        have h3l := hc3 _ f2
        clear hrefl
        generalize lastIdx S (S k) n = L at *
        have H3 : Hid (∀ k, k < n → w3.cell? ⟨b3, off3 + k, none⟩ = some (.string (S k))) := hc3
        clear hc3 hc5
        go_wp2
        go_quiet (fail)
        go_wp2
        go_loopw [5] (fun jj wr => ∃ m nr : Nat, L < m ∧ m ≤ n ∧ jj = .int .i64 m ∧ wr = w3.drewN nr) (fun jj _ => n - (intOf jj).toNat)
        case atStart => exact ⟨L + 1, _, by omega, by omega, by go_num, rfl⟩
        case round =>
          obtain ⟨m, nr, hm1, hm2, rfl, rfl⟩ := hrel
          by_cases hltm : m < n
          · have h3m := H3.out m hltm
            have hq := F4.out m hm1 hltm
            go_wp2
            go_quiet (fail)
            go_wp2
            go_roundw
            case rel => exact ⟨m + 1, _, by omega, by omega, by go_num, rfl⟩
            case measure => simp [intOf]; omega
          · go_wp2
            go_roundw
            case rel => exact ⟨k + 1, _, by omega, by go_num, rfl⟩
            case measure => simp [intOf]; omega
      · go_wp2
        go_ret
        exact ⟨rfl, below_drewN HB3.out nq⟩

end Go.Proofs.Qxb6604601a

/-
  zzSkip: the contract.
-/
import Derived.Test.Qxb6604654aReadHead
import Derived.Test.Qxb6604654aWf
namespace Go.Proofs.Qxb6604654a
open Go.RowKit

/-- j items have been passed, c bytes; what is left of them is d bytes. -/
def Mid (f : Nat) (x : List UInt8) (j left c d : Nat) : Prop := seqLen (itemLen f) j x = some c ∧ seqLen (itemLen f) left (x.drop c) = some d

theorem Mid.start {f k b : Nat} {x : List UInt8} (h : seqLen (itemLen f) k x = some b) : Mid f x 0 k 0 b := ⟨rfl, h⟩
theorem Mid.next {f j left c d : Nat} {x : List UInt8} (h : Mid f x j (left + 1) c d) : ∃ a d', itemLen f (x.drop c) = some a ∧ d = a + d' ∧ Mid f x (j + 1) left (c + a) d' := by
  obtain ⟨h1, h2⟩ := h
  obtain ⟨a, d', ha, hd, rfl⟩ := seqLen_succ h2
  refine ⟨a, d', ha, rfl, ?_, ?_⟩
  · have := seqLen_add j 1 x c a h1 (seqLen_mk (b := 0) ha rfl)
    exact this
  · rw [List.drop_drop] at hd
    exact hd
theorem Mid.done {f j c d : Nat} {x : List UInt8} (h : Mid f x j 0 c d) : d = 0 := by
  have := h.2
  simp [seqLen] at this
  omega
theorem Mid.le {f j left c d : Nat} {x : List UInt8} (h : Mid f x j left c d) : c + d ≤ x.length ∧ left ≤ d := by
  have h1 := seqLen_le (itemLen_le f) _ _ _ h.1
  have h2 := seqLen_le (itemLen_le f) _ _ _ h.2
  rw [List.length_drop] at h2
  omega

theorem ret_i64 {k : IntKind} {a b : Int} (h : a = b) : Ending.returned (.int k a) = .returned (.int k b) := by rw [h]

set_option maxHeartbeats 1000000 in
set_option maxRecDepth 100000 in
theorem skip_any (ao : Option Addr) (n cap : Nat) (l : List UInt8) (w : World) (h : BytesAt w ao n l) (hn : n ≤ 1099511627776) : ∀ (f pos a : Nat), itemLen f (l.drop pos) = some a →
    Calls Try.prog 24 #[.slice ao n cap, .int .i64 pos] w fun e w' => e = .returned (.int .i64 ((pos + a : Nat))) ∧ w' = w := by
  intro f
  induction f with
  | zero => intro pos a hi; simp [itemLen] at hi
  | succ f ih =>
    intro pos a hi
    have IH : Hid (∀ (pos a : Nat), itemLen f (l.drop pos) = some a → Calls Try.prog 24 #[.slice ao n cap, .int .i64 pos] w fun e w' => e = .returned (.int .i64 ((pos + a : Nat))) ∧ w' = w) := ih
    clear ih
    have hlen := h.len
    have hle := itemLen_le _ _ _ hi
    obtain ⟨hok, hown, c, hc, rfl⟩ := itemLen_succ hi
    have hrd := readHead_any ao n cap l w pos h hn hok
    have hm8 := hmaj_lt (l.drop pos)
    have hq1 := hl_pos (l.drop pos)
    have har := harg_lt (l.drop pos)
    rw [List.drop_drop] at hc
    rw [List.length_drop, hlen] at hown hle
    clear hi hok h
    generalize hmaj (l.drop pos) = m at *
    generalize hl (l.drop pos) = q at *
    generalize harg (l.drop pos) = r at *
    generalize hinfo (l.drop pos) = inf at *
    have HRD : Hid _ := hrd
    have HC : Hid _ := hc
    clear hrd hc
    have hm : m = 0 ∨ m = 1 ∨ m = 2 ∨ m = 3 ∨ m = 4 ∨ m = 5 ∨ m = 6 ∨ m = 7 := by omega
    rcases hm with rfl | rfl | rfl | rfl | rfl | rfl | rfl | rfl
    · have eo : own 0 r = 0 := by simp [own]
      have ek : kids 0 r = 0 := by simp [kids]
      rw [ek] at HC
      rw [eo] at hle hown ⊢
      have e0 : c = 0 := by have := HC.out; simp [seqLen] at this; omega
      subst e0
      clear eo ek HC IH
      go_enter Try.func24, Try.ntmps24
      go_wp2_with fail
      refine Calls.mono HRD.out ?_
      rintro e w' ⟨rfl, hw'⟩
      obtain rfl : w = w' := hw'.symm
      clear hw' HRD
      go_wp2_with fail
      go_ret
      exact ⟨ret_i64 (by omega), rfl⟩
    · have eo : own 1 r = 0 := by simp [own]
      have ek : kids 1 r = 0 := by simp [kids]
      rw [ek] at HC
      rw [eo] at hle hown ⊢
      have e0 : c = 0 := by have := HC.out; simp [seqLen] at this; omega
      subst e0
      clear eo ek HC IH
      go_enter Try.func24, Try.ntmps24
      go_wp2_with fail
      refine Calls.mono HRD.out ?_
      rintro e w' ⟨rfl, hw'⟩
      obtain rfl : w = w' := hw'.symm
      clear hw' HRD
      go_wp2_with fail
      go_ret
      exact ⟨ret_i64 (by omega), rfl⟩
    · have eo : own 2 r = r := by simp [own]
      have ek : kids 2 r = 0 := by simp [kids]
      rw [ek] at HC
      rw [eo] at hle hown ⊢
      have e0 : c = 0 := by have := HC.out; simp [seqLen] at this; omega
      subst e0
      clear eo ek HC IH
      go_enter Try.func24, Try.ntmps24
      go_wp2_with fail
      refine Calls.mono HRD.out ?_
      rintro e w' ⟨rfl, hw'⟩
      obtain rfl : w = w' := hw'.symm
      clear hw' HRD
      go_wp2_with fail
      go_ret
      exact ⟨ret_i64 (by omega), rfl⟩
    · have eo : own 3 r = r := by simp [own]
      have ek : kids 3 r = 0 := by simp [kids]
      rw [ek] at HC
      rw [eo] at hle hown ⊢
      have e0 : c = 0 := by have := HC.out; simp [seqLen] at this; omega
      subst e0
      clear eo ek HC IH
      go_enter Try.func24, Try.ntmps24
      go_wp2_with fail
      refine Calls.mono HRD.out ?_
      rintro e w' ⟨rfl, hw'⟩
      obtain rfl : w = w' := hw'.symm
      clear hw' HRD
      go_wp2_with fail
      go_ret
      exact ⟨ret_i64 (by omega), rfl⟩
    · have eo : own 4 r = 0 := by simp [own]
      have ek : kids 4 r = r := by simp [kids]
      rw [ek] at HC
      rw [eo] at hle hown ⊢
      have HM : Hid (Mid f (l.drop (pos + q)) 0 r 0 c) := Mid.start HC.out
      have hrc : r ≤ c := HM.out.le.2
      clear eo ek HC
      go_enter Try.func24, Try.ntmps24
      go_wp2_with fail
      refine Calls.mono HRD.out ?_
      rintro e w' ⟨rfl, hw'⟩
      obtain rfl : w = w' := hw'.symm
      clear hw' HRD
      go_wp2_with fail
      go_loop [8, 9] (fun pv kv => ∃ j c' d : Nat, j ≤ r ∧ kv = .int .u64 j ∧ pv = .int .i64 ((pos + q + c' : Nat)) ∧ c' + d = c ∧ Hid (Mid f (l.drop (pos + q)) j (r - j) c' d)) (fun _ kv => r - (intOf kv).toNat)
      case atStart => exact ⟨0, 0, c, by omega, rfl, rfl, by omega, HM⟩
      case round =>
        obtain ⟨j, c', d, hj, rfl, rfl, hcd, HJ⟩ := hrel
        by_cases hlt : j < r
        · rw [show r - j = (r - (j + 1)) + 1 from by omega] at HJ
          obtain ⟨a1, d1, ha1, rfl, hM⟩ := HJ.out.next
          rw [List.drop_drop] at ha1
          have HA : Hid _ := IH.out _ a1 ha1
          have HM' : Hid (Mid f (l.drop (pos + q)) (j + 1) (r - (j + 1)) (c' + a1) d1) := hM
          clear HJ ha1 hM HM
          go_wp2_with fail
          refine Calls.mono HA.out ?_
          rintro e w' ⟨rfl, hw'⟩
          obtain rfl : w = w' := hw'.symm
          clear hw' HA
          go_wp2_with fail
          go_round
          case rel => exact ⟨j + 1, c' + a1, d1, by omega, by go_num, by go_num, by omega, HM'⟩
          case measure => simp [intOf]; omega
        · obtain rfl : j = r := by omega
          rw [Nat.sub_self] at HJ
          have hd := HJ.out.done
          go_wp2_with fail
          go_ret
          exact ⟨ret_i64 (by omega), rfl⟩
    · have eo : own 5 r = 0 := by simp [own]
      have ek : kids 5 r = 2 * r := by simp [kids]
      rw [ek] at HC
      rw [eo] at hle hown ⊢
      have HM : Hid (Mid f (l.drop (pos + q)) 0 (2 * r) 0 c) := Mid.start HC.out
      have hrc : 2 * r ≤ c := HM.out.le.2
      clear eo ek HC
      go_enter Try.func24, Try.ntmps24
      go_wp2_with fail
      refine Calls.mono HRD.out ?_
      rintro e w' ⟨rfl, hw'⟩
      obtain rfl : w = w' := hw'.symm
      clear hw' HRD
      go_wp2_with fail
      go_loop [8, 10] (fun pv kv => ∃ j c' d : Nat, j ≤ r ∧ kv = .int .u64 j ∧ pv = .int .i64 ((pos + q + c' : Nat)) ∧ c' + d = c ∧ Hid (Mid f (l.drop (pos + q)) (2 * j) (2 * r - 2 * j) c' d)) (fun _ kv => r - (intOf kv).toNat)
      case atStart => exact ⟨0, 0, c, by omega, rfl, rfl, by omega, HM⟩
      case round =>
        obtain ⟨j, c', d, hj, rfl, rfl, hcd, HJ⟩ := hrel
        by_cases hlt : j < r
        · rw [show 2 * r - 2 * j = (2 * r - 2 * j - 1) + 1 from by omega] at HJ
          obtain ⟨a1, d1, ha1, rfl, hM⟩ := HJ.out.next
          rw [List.drop_drop] at ha1
          have HA : Hid _ := IH.out _ a1 ha1
          rw [show 2 * r - 2 * j - 1 = (2 * r - 2 * (j + 1)) + 1 from by omega] at hM
          obtain ⟨a2, d2, ha2, rfl, hM2⟩ := hM.next
          rw [List.drop_drop] at ha2
          have HA2 : Hid _ := IH.out _ a2 ha2
          have HM' : Hid (Mid f (l.drop (pos + q)) (2 * (j + 1)) (2 * r - 2 * (j + 1)) (c' + a1 + a2) d2) := hM2
          clear HJ ha1 hM HM ha2 hM2
          go_wp2_with fail
          refine Calls.mono HA.out ?_
          rintro e w' ⟨rfl, hw'⟩
          obtain rfl : w = w' := hw'.symm
          clear hw' HA
          go_wp2_with fail
          rw [show ((pos : Int) + (q : Int) + (c' : Int) + (a1 : Int)) = ((pos + q + (c' + a1) : Nat) : Int) from by omega]
          refine Calls.mono HA2.out ?_
          rintro e w' ⟨rfl, hw'⟩
          obtain rfl : w = w' := hw'.symm
          clear hw' HA2
          go_wp2_with fail
          go_round
          case rel => exact ⟨j + 1, c' + a1 + a2, d2, by omega, by go_num, by go_num, by omega, HM'⟩
          case measure => simp [intOf]; omega
        · obtain rfl : j = r := by omega
          rw [Nat.sub_self] at HJ
          have hd := HJ.out.done
          go_wp2_with fail
          go_ret
          exact ⟨ret_i64 (by omega), rfl⟩
    · have eo : own 6 r = 0 := by simp [own]
      have ek : kids 6 r = 1 := by simp [kids]
      rw [ek] at HC
      rw [eo] at hle hown ⊢
      obtain ⟨a1, d1, ha1, hd1, rfl⟩ := seqLen_succ HC.out
      simp [seqLen] at hd1
      subst hd1
      have HA : Hid _ := IH.out _ a1 ha1
      clear eo ek HC ha1
      go_enter Try.func24, Try.ntmps24
      go_wp2_with fail
      refine Calls.mono HRD.out ?_
      rintro e w' ⟨rfl, hw'⟩
      obtain rfl : w = w' := hw'.symm
      clear hw' HRD
      go_wp2_with fail
      refine Calls.mono HA.out ?_
      rintro e w' ⟨rfl, hw'⟩
      obtain rfl : w = w' := hw'.symm
      clear hw' HA
      go_wp2_with fail
      go_ret
      exact ⟨ret_i64 (by omega), rfl⟩
    · have eo : own 7 r = 0 := by simp [own]
      have ek : kids 7 r = 0 := by simp [kids]
      rw [ek] at HC
      rw [eo] at hle hown ⊢
      have e0 : c = 0 := by have := HC.out; simp [seqLen] at this; omega
      subst e0
      clear eo ek HC IH
      go_enter Try.func24, Try.ntmps24
      go_wp2_with fail
      refine Calls.mono HRD.out ?_
      rintro e w' ⟨rfl, hw'⟩
      obtain rfl : w = w' := hw'.symm
      clear hw' HRD
      go_wp2_with fail
      go_ret
      exact ⟨ret_i64 (by omega), rfl⟩

end Go.Proofs.Qxb6604654a

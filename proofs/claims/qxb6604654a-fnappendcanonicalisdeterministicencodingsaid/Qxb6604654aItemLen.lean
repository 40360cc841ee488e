/-
  zzItemLen: the contract.
-/
import Derived.Test.Qxb6604654aReadHead
import Derived.Test.Qxb6604654aWf
import Derived.Deep.CutRange
namespace Go.Proofs.Qxb6604654a
open Go.RowKit

/-- What zzItemLen answers. -/
def LenPost (l : List UInt8) (e : Ending) : Prop :=
  (∃ t : Nat, WF 1 l t ∧ e = .returned (.tuple #[.int .i64 t, .bool true])) ∨ ((∀ t, ¬ WF 1 l t) ∧ e = .returned (.tuple #[.int .i64 0, .bool false]))
theorem LenPost.yes {l : List UInt8} {t : Nat} (h : WF 1 l t) : LenPost l (.returned (.tuple #[.int .i64 t, .bool true])) := .inl ⟨t, h, rfl⟩
theorem LenPost.no {l : List UInt8} (h : ∀ t, ¬ WF 1 l t) : LenPost l (.returned (.tuple #[.int .i64 0, .bool false])) := .inr ⟨h, rfl⟩

set_option maxHeartbeats 4000000 in
set_option maxRecDepth 100000 in
theorem itemLen_walk (ao : Option Addr) (n cap : Nat) (l : List UInt8) (w : World) (h : BytesAt w ao n l) (hn : n ≤ 1099511627776) :
    Calls Try.prog 8 #[.slice ao n cap] w fun e w' => LenPost l e ∧ w' = w := by
  have HS : Hid (BytesAt w ao n l) := h
  have hlen := h.len
  clear h
  go_enter Try.func8, Try.ntmps8
  go_wp2
  go_loop [4, 5] (fun pv kv => ∃ p k : Nat, pv = .int .i64 p ∧ kv = .int .i64 k ∧ p ≤ n ∧ k ≤ n + 1 ∧ Hid (Owed l p k)) (fun pv _ => n - (intOf pv).toNat)
  case atStart => exact ⟨0, 1, rfl, rfl, by omega, by omega, Owed.start l⟩
  case round =>
    obtain ⟨p, k, rfl, rfl, hp, hk, HO⟩ := hrel
    cases k with
    | zero =>
      go_wp2
      go_ret2
      exact ⟨LenPost.yes HO.out.done, rfl⟩
    | succ k =>
      have nostep : ¬ stepOk l p k → LenPost l (.returned (.tuple #[.int .i64 0, .bool false])) := fun hs => LenPost.no (HO.out.fail (by omega) hs)
      by_cases hpn : p < n
      · obtain ⟨b, off, rfl, hc⟩ := HS.out.cells (by omega)
        have c0 := hc p hpn
        rw [byteAt_nb] at c0
        have hb := nb_lt l p
        have ha := and31 (nb l p) (by omega) (by omega)
        have ei : hinfo (l.drop p) = nb l p % 32 := by unfold hinfo; rw [nb_drop, Nat.add_zero]
        by_cases hi : 27 < nb l p % 32
        · have HN : Hid (LenPost l (.returned (.tuple #[.int .i64 0, .bool false]))) := nostep fun hs => by have := (headOk_iff.1 hs.1).1; omega
          have hi' : (27 : Int) < (nb l p : Int) % 32 := by omega
          clear hc nostep ei HO
          go_wp2
          go_ret2
          exact ⟨HN.out, rfl⟩
        · have hi' : ¬ (27 : Int) < (nb l p : Int) % 32 := by omega
          have hi2 : decide ((27 : Int) < (nb l p : Int) % 32) = false := by simp; omega
          have HI : Hid (hinfo (l.drop p) = nb l p % 32) := ei
          have HN : Hid (¬ stepOk l p k → LenPost l (.returned (.tuple #[.int .i64 0, .bool false]))) := nostep
          clear hc nostep ei
          go_upto_if 27 with fail
          go_cut [6] from 13 to 94 (fun _ wx => wx = w ∧ Hid (headOk (l.drop p) = true))
          case first =>
            by_cases hs : nb l p % 32 < 24
            · have HK : Hid (headOk (l.drop p) = true) := headOk_iff.2 ⟨by rw [HI.out]; omega, by unfold hl; rw [HI.out, List.length_drop]; unfold wide; rw [if_pos hs]; omega⟩
              have hs' : decide ((24 : Int) ≤ (nb l p : Int) % 32) = false := by simp; omega
              clear HO HN
              go_wp2
              go_meet
              case rel => exact ⟨rfl, HK⟩
            · have hs4 : nb l p % 32 = 24 ∨ nb l p % 32 = 25 ∨ nb l p % 32 = 26 ∨ nb l p % 32 = 27 := by omega
              rcases hs4 with e | e | e | e
              · have e' : (nb l p : Int) % 32 = 24 := by omega
                by_cases hw : n < p + 1 + 1
                · have HL : Hid (LenPost l (.returned (.tuple #[.int .i64 0, .bool false]))) := HN.out fun hst => by
                    have := (headOk_iff.1 hst.1).2; unfold hl at this; rw [HI.out, e, List.length_drop] at this; unfold wide at this; simp at this; omega
                  have hw' : (n : Int) - p - 1 < 1 := by omega
                  clear HO HN hs
                  go_wp2
                  go_ret2
                  exact ⟨HL.out, rfl⟩
                · have HK : Hid (headOk (l.drop p) = true) := headOk_iff.2 ⟨by rw [HI.out]; omega, by unfold hl; rw [HI.out, e, List.length_drop]; unfold wide; simp; omega⟩
                  have hw' : decide ((n : Int) - p - 1 < 1) = false := by simp; omega
                  clear HO HN hs
                  go_wp2
                  go_meet
                  case rel => exact ⟨rfl, HK⟩
              · have e' : (nb l p : Int) % 32 = 25 := by omega
                by_cases hw : n < p + 1 + 2
                · have HL : Hid (LenPost l (.returned (.tuple #[.int .i64 0, .bool false]))) := HN.out fun hst => by
                    have := (headOk_iff.1 hst.1).2; unfold hl at this; rw [HI.out, e, List.length_drop] at this; unfold wide at this; simp at this; omega
                  have hw' : (n : Int) - p - 1 < 2 := by omega
                  clear HO HN hs
                  go_wp2
                  go_ret2
                  exact ⟨HL.out, rfl⟩
                · have HK : Hid (headOk (l.drop p) = true) := headOk_iff.2 ⟨by rw [HI.out]; omega, by unfold hl; rw [HI.out, e, List.length_drop]; unfold wide; simp; omega⟩
                  have hw' : decide ((n : Int) - p - 1 < 2) = false := by simp; omega
                  clear HO HN hs
                  go_wp2
                  go_meet
                  case rel => exact ⟨rfl, HK⟩
              · have e' : (nb l p : Int) % 32 = 26 := by omega
                by_cases hw : n < p + 1 + 4
                · have HL : Hid (LenPost l (.returned (.tuple #[.int .i64 0, .bool false]))) := HN.out fun hst => by
                    have := (headOk_iff.1 hst.1).2; unfold hl at this; rw [HI.out, e, List.length_drop] at this; unfold wide at this; simp at this; omega
                  have hw' : (n : Int) - p - 1 < 4 := by omega
                  clear HO HN hs
                  go_wp2
                  go_ret2
                  exact ⟨HL.out, rfl⟩
                · have HK : Hid (headOk (l.drop p) = true) := headOk_iff.2 ⟨by rw [HI.out]; omega, by unfold hl; rw [HI.out, e, List.length_drop]; unfold wide; simp; omega⟩
                  have hw' : decide ((n : Int) - p - 1 < 4) = false := by simp; omega
                  clear HO HN hs
                  go_wp2
                  go_meet
                  case rel => exact ⟨rfl, HK⟩
              · have e' : (nb l p : Int) % 32 = 27 := by omega
                by_cases hw : n < p + 1 + 8
                · have HL : Hid (LenPost l (.returned (.tuple #[.int .i64 0, .bool false]))) := HN.out fun hst => by
                    have := (headOk_iff.1 hst.1).2; unfold hl at this; rw [HI.out, e, List.length_drop] at this; unfold wide at this; simp at this; omega
                  have hw' : (n : Int) - p - 1 < 8 := by omega
                  clear HO HN hs
                  go_wp2
                  go_ret2
                  exact ⟨HL.out, rfl⟩
                · have HK : Hid (headOk (l.drop p) = true) := headOk_iff.2 ⟨by rw [HI.out]; omega, by unfold hl; rw [HI.out, e, List.length_drop]; unfold wide; simp; omega⟩
                  have hw' : decide ((n : Int) - p - 1 < 8) = false := by simp; omega
                  clear HO HN hs
                  go_wp2
                  go_meet
                  case rel => exact ⟨rfl, HK⟩
          case rest =>
            obtain ⟨hwc, HK⟩ := hcut
            obtain rfl : w = wc := hwc.symm
            clear hwc hi' hi2 ha c0 HI
            have hiff : stepOk l p k ↔ p + hl (l.drop p) + own (hmaj (l.drop p)) (harg (l.drop p)) ≤ n ∧ kids (hmaj (l.drop p)) (harg (l.drop p)) + k ≤ n - (p + hl (l.drop p) + own (hmaj (l.drop p)) (harg (l.drop p))) := by
              unfold stepOk
              rw [hlen]
              exact ⟨fun h => h.2, fun h => ⟨HK.out, h⟩⟩
            have hgo : p + hl (l.drop p) + own (hmaj (l.drop p)) (harg (l.drop p)) ≤ n ∧ kids (hmaj (l.drop p)) (harg (l.drop p)) + k ≤ n - (p + hl (l.drop p) + own (hmaj (l.drop p)) (harg (l.drop p))) → Owed l (p + hl (l.drop p) + own (hmaj (l.drop p)) (harg (l.drop p))) (kids (hmaj (l.drop p)) (harg (l.drop p)) + k) :=
              fun h => HO.out.step (by omega) (hiff.2 h)
            have hno : ¬ (p + hl (l.drop p) + own (hmaj (l.drop p)) (harg (l.drop p)) ≤ n ∧ kids (hmaj (l.drop p)) (harg (l.drop p)) + k ≤ n - (p + hl (l.drop p) + own (hmaj (l.drop p)) (harg (l.drop p)))) → LenPost l (.returned (.tuple #[.int .i64 0, .bool false])) :=
              fun h => HN.out fun h' => h (hiff.1 h')
            have hm8 := hmaj_lt (l.drop p)
            have hq1 := hl_pos (l.drop p)
            have hqn := (headOk_iff.1 HK.out).2
            rw [List.length_drop, hlen] at hqn
            have har := harg_lt (l.drop p)
            have hrd := readHead_any (some ⟨b, off, none⟩) n cap l w p HS.out hn HK.out
            clear HO HN hiff HK
            generalize hmaj (l.drop p) = m at *
            generalize hl (l.drop p) = q at *
            generalize harg (l.drop p) = a at *
            generalize hinfo (l.drop p) = inf at *
            have hqn' : p + q ≤ n := by omega
            have HGO : Hid _ := hgo
            have HNO : Hid _ := hno
            have HRD : Hid _ := hrd
            clear hgo hno hrd hqn
            go_wp2_with fail
            refine Calls.mono HRD.out ?_
            rintro e w' ⟨rfl, hw'⟩
            obtain rfl : w = w' := hw'.symm
            clear hw' HRD
            have hm : m = 0 ∨ m = 1 ∨ m = 2 ∨ m = 3 ∨ m = 4 ∨ m = 5 ∨ m = 6 ∨ m = 7 := by omega
            rcases hm with rfl | rfl | rfl | rfl | rfl | rfl | rfl | rfl
            · have eo : own 0 a = 0 := by simp [own]
              have ek : kids 0 a = 0 := by simp [kids]
              rw [eo, ek] at HGO HNO
              by_cases c2 : k ≤ n - (p + q)
              · have HO : Hid (Owed l (p + q) (k)) := by show Owed l (p + q) (k); have := HGO.out (by omega); simpa using this
                clear HGO HNO eo ek
                go_wp2
                go_round
                case rel => exact ⟨p + q, k, by go_num, by go_num, by omega, by omega, HO⟩
                case measure => simp [intOf]; omega
              · have HL : Hid (LenPost l (.returned (.tuple #[.int .i64 0, .bool false]))) := HNO.out (by omega)
                clear HGO HNO eo ek
                go_wp2
                go_ret2
                exact ⟨HL.out, rfl⟩
            · have eo : own 1 a = 0 := by simp [own]
              have ek : kids 1 a = 0 := by simp [kids]
              rw [eo, ek] at HGO HNO
              by_cases c2 : k ≤ n - (p + q)
              · have HO : Hid (Owed l (p + q) (k)) := by show Owed l (p + q) (k); have := HGO.out (by omega); simpa using this
                clear HGO HNO eo ek
                go_wp2
                go_round
                case rel => exact ⟨p + q, k, by go_num, by go_num, by omega, by omega, HO⟩
                case measure => simp [intOf]; omega
              · have HL : Hid (LenPost l (.returned (.tuple #[.int .i64 0, .bool false]))) := HNO.out (by omega)
                clear HGO HNO eo ek
                go_wp2
                go_ret2
                exact ⟨HL.out, rfl⟩
            · have eo : own 2 a = a := by simp [own]
              have ek : kids 2 a = 0 := by simp [kids]
              rw [eo, ek] at HGO HNO
              by_cases c1 : n < p + q + a
              · have HL : Hid (LenPost l (.returned (.tuple #[.int .i64 0, .bool false]))) := HNO.out (by omega)
                clear HGO HNO eo ek
                go_wp2
                go_ret2
                exact ⟨HL.out, rfl⟩
              by_cases c2 : k ≤ n - (p + q + a)
              · have HO : Hid (Owed l (p + q + a) (k)) := by show Owed l (p + q + a) (k); have := HGO.out (by omega); simpa using this
                clear HGO HNO eo ek
                go_wp2
                go_round
                case rel => exact ⟨p + q + a, k, by go_num, by go_num, by omega, by omega, HO⟩
                case measure => simp [intOf]; omega
              · have HL : Hid (LenPost l (.returned (.tuple #[.int .i64 0, .bool false]))) := HNO.out (by omega)
                clear HGO HNO eo ek
                go_wp2
                go_ret2
                exact ⟨HL.out, rfl⟩
            · have eo : own 3 a = a := by simp [own]
              have ek : kids 3 a = 0 := by simp [kids]
              rw [eo, ek] at HGO HNO
              by_cases c1 : n < p + q + a
              · have HL : Hid (LenPost l (.returned (.tuple #[.int .i64 0, .bool false]))) := HNO.out (by omega)
                clear HGO HNO eo ek
                go_wp2
                go_ret2
                exact ⟨HL.out, rfl⟩
              by_cases c2 : k ≤ n - (p + q + a)
              · have HO : Hid (Owed l (p + q + a) (k)) := by show Owed l (p + q + a) (k); have := HGO.out (by omega); simpa using this
                clear HGO HNO eo ek
                go_wp2
                go_round
                case rel => exact ⟨p + q + a, k, by go_num, by go_num, by omega, by omega, HO⟩
                case measure => simp [intOf]; omega
              · have HL : Hid (LenPost l (.returned (.tuple #[.int .i64 0, .bool false]))) := HNO.out (by omega)
                clear HGO HNO eo ek
                go_wp2
                go_ret2
                exact ⟨HL.out, rfl⟩
            · have eo : own 4 a = 0 := by simp [own]
              have ek : kids 4 a = a := by simp [kids]
              rw [eo, ek] at HGO HNO
              by_cases c1 : n < p + q + a
              · have HL : Hid (LenPost l (.returned (.tuple #[.int .i64 0, .bool false]))) := HNO.out (by omega)
                clear HGO HNO eo ek
                go_wp2
                go_ret2
                exact ⟨HL.out, rfl⟩
              by_cases c2 : a + k ≤ n - (p + q)
              · have HO : Hid (Owed l (p + q) (a + k)) := by show Owed l (p + q) (a + k); have := HGO.out (by omega); simpa using this
                clear HGO HNO eo ek
                go_wp2
                go_round
                case rel => exact ⟨p + q, a + k, by go_num, by go_num, by omega, by omega, HO⟩
                case measure => simp [intOf]; omega
              · have HL : Hid (LenPost l (.returned (.tuple #[.int .i64 0, .bool false]))) := HNO.out (by omega)
                clear HGO HNO eo ek
                go_wp2
                go_ret2
                exact ⟨HL.out, rfl⟩
            · have eo : own 5 a = 0 := by simp [own]
              have ek : kids 5 a = 2 * a := by simp [kids]
              rw [eo, ek] at HGO HNO
              by_cases c1 : n < p + q + 2 * a
              · have HL : Hid (LenPost l (.returned (.tuple #[.int .i64 0, .bool false]))) := HNO.out (by omega)
                clear HGO HNO eo ek
                go_wp2
                go_ret2
                exact ⟨HL.out, rfl⟩
              by_cases c2 : 2 * a + k ≤ n - (p + q)
              · have HO : Hid (Owed l (p + q) (2 * a + k)) := by show Owed l (p + q) (2 * a + k); have := HGO.out (by omega); simpa using this
                clear HGO HNO eo ek
                go_wp2
                go_round
                case rel => exact ⟨p + q, 2 * a + k, by go_num, by go_num, by omega, by omega, HO⟩
                case measure => simp [intOf]; omega
              · have HL : Hid (LenPost l (.returned (.tuple #[.int .i64 0, .bool false]))) := HNO.out (by omega)
                clear HGO HNO eo ek
                go_wp2
                go_ret2
                exact ⟨HL.out, rfl⟩
            · have eo : own 6 a = 0 := by simp [own]
              have ek : kids 6 a = 1 := by simp [kids]
              rw [eo, ek] at HGO HNO
              by_cases c2 : 1 + k ≤ n - (p + q)
              · have HO : Hid (Owed l (p + q) (1 + k)) := by show Owed l (p + q) (1 + k); have := HGO.out (by omega); simpa using this
                clear HGO HNO eo ek
                go_wp2
                go_round
                case rel => exact ⟨p + q, 1 + k, by go_num, by go_num, by omega, by omega, HO⟩
                case measure => simp [intOf]; omega
              · have HL : Hid (LenPost l (.returned (.tuple #[.int .i64 0, .bool false]))) := HNO.out (by omega)
                clear HGO HNO eo ek
                go_wp2
                go_ret2
                exact ⟨HL.out, rfl⟩
            · have eo : own 7 a = 0 := by simp [own]
              have ek : kids 7 a = 0 := by simp [kids]
              rw [eo, ek] at HGO HNO
              by_cases c2 : k ≤ n - (p + q)
              · have HO : Hid (Owed l (p + q) (k)) := by show Owed l (p + q) (k); have := HGO.out (by omega); simpa using this
                clear HGO HNO eo ek
                go_wp2
                go_round
                case rel => exact ⟨p + q, k, by go_num, by go_num, by omega, by omega, HO⟩
                case measure => simp [intOf]; omega
              · have HL : Hid (LenPost l (.returned (.tuple #[.int .i64 0, .bool false]))) := HNO.out (by omega)
                clear HGO HNO eo ek
                go_wp2
                go_ret2
                exact ⟨HL.out, rfl⟩
      · have HN : Hid (LenPost l (.returned (.tuple #[.int .i64 0, .bool false]))) := nostep fun hs => by
          have := (headOk_iff.1 hs.1).2; have := hl_pos (l.drop p); rw [List.length_drop] at *; omega
        clear nostep HO
        go_wp2
        go_ret2
        exact ⟨HN.out, rfl⟩

end Go.Proofs.Qxb6604654a

/-
  zzCanonAt at a map, and whole.
-/
import Derived.Test.Qxb6604654aCanonAt
namespace Go.Proofs.Qxb6604654a
open Go.RowKit
open Go.Lib (compareBytes)

/-- Where the key before lies: nowhere yet, or from ps to pe. -/
def PrevAt (l : List UInt8) (n : Nat) (prev : Option (List UInt8)) (psv pev : Value) : Prop :=
  (prev = none ∧ psv = .int .i64 (-1) ∧ pev = .int .i64 (-1)) ∨ ∃ ps pe : Nat, ps < pe ∧ pe ≤ n ∧ prev = some ((l.drop ps).take (pe - ps)) ∧ psv = .int .i64 (ps : Nat) ∧ pev = .int .i64 (pe : Nat)
theorem BytesAt.part {w : World} {b off n cap : Nat} {l : List UInt8} (h : BytesAt w (some ⟨b, off, none⟩) n l) (hcap : n ≤ cap) (i j : Nat) (hij : i < j) (hj : j ≤ n) : BytesAt w (some ⟨b, off + i, none⟩) (j - i) ((l.drop i).take (j - i)) := by
  have h1 := h.cut hcap i (by omega)
  rw [cutAt_some (by omega)] at h1
  exact h1.front (j - i) (by omega)

set_option maxHeartbeats 1000000 in
set_option maxRecDepth 100000 in
theorem canat_5 (s : Bool) (f b off n cap : Nat) (l : List UInt8) (IH : Hid (CanAtC s f b off n cap l)) (w : World) (HB : Hid (BytesAt w (some ⟨b, off, none⟩) n l)) (pos q x i c : Nat) (hn : n ≤ 1099511627776) (hcap : n ≤ cap) (_hcap2 : cap ≤ 9223372036854775807) (hx : x < 18446744073709551616) (hi : i < 32) (hq : pos + q + c ≤ n)
    (HRD : Hid (Calls Try.prog 20 #[.slice (some ⟨b, off, none⟩) n cap, .int .i64 (pos : Nat)] w fun e w' => e = .returned (.tuple #[.int .u8 5, .int .u8 (i : Nat), .int .u64 (x : Nat), .int .i64 ((pos + q : Nat))]) ∧ w' = w))
    (hmin : minimal i x = true) (HC : Hid (seqLen (itemLen f) (2 * x) (l.drop (pos + q)) = some c)) (HIFF : Hid (Canon s (f + 1) (l.drop pos) ↔ MapCanon s (Canon s f) (itemLen f) x none (l.drop (pos + q)))) :
    Calls Try.prog 12 #[.slice (some ⟨b, off, none⟩) n cap, .int .i64 (pos : Nat), .bool s] w (CanPost s (f + 1) l pos (q + c) w) := by
  have HMC : Hid (Calls Try.prog 22 #[.int .u8 (i : Nat), .int .u64 (x : Nat)] w fun e w' => e = .returned (.bool true) ∧ w' = w) := by
    have h := minimal_any i x w hx hi
    rw [hmin] at h
    exact h
  go_enter Try.func12, Try.ntmps12
  go_wp2_with fail
  refine Calls.mono HRD.out ?_
  clear HRD
  rintro e w' ⟨rfl, hw'⟩
  obtain rfl : w = w' := hw'.symm
  clear hw'
  go_wp2_with fail
  refine Calls.mono HMC.out ?_
  clear HMC
  rintro e w' ⟨rfl, hw'⟩
  obtain rfl : w = w' := hw'.symm
  clear hw'
  have HM : Hid (Mid f (l.drop (pos + q)) (2 * 0) (2 * x - 2 * 0) 0 c) := Mid.start HC.out
  have hrc : 2 * x ≤ c := HM.out.le.2
  have HF0 : Hid (MapCanon s (Canon s f) (itemLen f) x none (l.drop (pos + q)) ↔ MapCanon s (Canon s f) (itemLen f) (x - 0) none ((l.drop (pos + q)).drop 0)) := Iff.rfl
  have HP0 : Hid (PrevAt l n none (.int .i64 (-1)) (.int .i64 (-1))) := .inl ⟨rfl, rfl, rfl⟩
  go_wp2_with fail
  go_loopw [11, 14, 15, 16] (fun pv psv pev kv wr => ∃ j c' d qd prev p, Hid (p = pos + q + c') ∧ j ≤ x ∧ kv = .int .u64 ((j : Nat) : Int) ∧ pv = .int .i64 ((p : Nat) : Int) ∧ c' + d = c ∧ wr = w.drewN qd ∧ Hid (Mid f (l.drop (pos + q)) (2 * j) (2 * x - 2 * j) c' d) ∧ Hid (MapCanon s (Canon s f) (itemLen f) x none (l.drop (pos + q)) ↔ MapCanon s (Canon s f) (itemLen f) (x - j) prev ((l.drop (pos + q)).drop c')) ∧ Hid (PrevAt l n prev psv pev)) (fun _ _ _ kv _ => x - (intOf kv).toNat)
  case atStart => exact ⟨0, 0, c, 0, none, pos + q, rfl, by omega, rfl, rfl, by omega, rfl, HM, HF0, HP0⟩
  case round =>
    obtain ⟨j, c', d, qd, prev, p, HPP, hj, rfl, rfl, hcd, rfl, HJ, HF, HP⟩ := hrel
    clear HM HF0 HP0
    by_cases hlt : j < x
    · rw [show 2 * x - 2 * j = (2 * x - 2 * j - 1) + 1 from by omega] at HJ
      rw [show x - j = (x - (j + 1)) + 1 from by omega] at HF
      obtain ⟨a1, d1, ha1, rfl, hM⟩ := HJ.out.next
      rw [show 2 * x - 2 * j - 1 = (2 * x - 2 * (j + 1)) + 1 from by omega] at hM
      obtain ⟨a2, d2, ha2, rfl, hM2⟩ := hM.next
      have hle1 := itemLen_le _ _ _ ha1
      have hp : p = pos + q + c' := HPP.out
      have hst := map_step HF.out ha1 ha2
      have hdr : (l.drop (pos + q)).drop c' = l.drop p := by rw [List.drop_drop]; congr 1; omega
      obtain ⟨ke, hke⟩ : ∃ ke, ke = p + a1 := ⟨_, rfl⟩
      obtain ⟨p2, hp2⟩ : ∃ p2, p2 = ke + a2 := ⟨_, rfl⟩
      have hdr2 : (l.drop (pos + q)).drop (c' + a1) = l.drop ke := by rw [List.drop_drop]; congr 1; omega
      have e1 : a1 = ke - p := by omega
      rw [hdr, hdr2, e1] at hst
      have hst' : MapCanon s (Canon s f) (itemLen f) x none (l.drop (pos + q)) ↔ Canon s f (l.drop p) ∧ KeyOk s prev ((l.drop p).take (ke - p)) ∧ Canon s f (l.drop ke) ∧ MapCanon s (Canon s f) (itemLen f) (x - (j + 1)) (some ((l.drop p).take (ke - p))) ((l.drop (pos + q)).drop (c' + a1 + a2)) := by
        rw [e1]
        exact hst
      have HST : Hid _ := hst'
      rw [hdr] at ha1
      rw [hdr2] at ha2
      have HA : Hid (Calls Try.prog 12 #[.slice (some ⟨b, off, none⟩) n cap, .int .i64 (p : Nat), .bool s] (w.drewN qd) (CanPost s f l p a1 (w.drewN qd))) := IH.out _ p a1 (HB.out.drewN qd) ha1
      have HA2 : Hid (∀ w0, (∃ q, w0 = w.drewN q) → Calls Try.prog 12 #[.slice (some ⟨b, off, none⟩) n cap, .int .i64 (ke : Nat), .bool s] w0 fun e w' => (∃ q, w' = w.drewN q) ∧ ((e = .returned (.tuple #[.int .i64 ((ke + a2 : Nat)), .bool true]) ∧ Canon s f (l.drop ke)) ∨ (e = .returned (.tuple #[.int .i64 0, .bool false]) ∧ ¬ Canon s f (l.drop ke)))) := by
        rintro w0 ⟨q0, rfl⟩
        refine (IH.out _ ke a2 (HB.out.drewN q0) ha2).mono ?_
        rintro e w' ⟨⟨q1, rfl⟩, hh⟩
        exact ⟨⟨q0 + q1, World.drewN_drewN _ _ _⟩, hh⟩
      have hM2le := hM2.le
      have HM' : Hid (Mid f (l.drop (pos + q)) (2 * (j + 1)) (2 * x - 2 * (j + 1)) (c' + a1 + a2) d2) := hM2
      have hlen : l.length = n := HB.out.len
      rw [List.length_drop, hlen] at hM2le
      have HKE : Hid (ke = p + a1) := hke
      have HP2 : Hid (p2 = ke + a2) := hp2
      have hpk : p < ke := by omega
      have hkn : ke ≤ n := by omega
      clear HJ ha1 ha2 hM hM2 hdr hdr2 hst hst' hp hke hp2 e1 hM2le hle1
      go_wp2_with fail
      refine Calls.mono HA.out ?_
      clear HA
      rintro e w' ⟨⟨q2, hw'⟩, hcase⟩
      rw [World.drewN_drewN] at hw'
      subst hw'
      rcases hcase with ⟨he, hcn⟩ | ⟨rfl, hcn⟩
      · rw [← HKE.out] at he
        subst he
        have HCN : Hid (Canon s f (l.drop p)) := hcn
        clear hcn
        rcases HP.out with ⟨rfl, rfl, rfl⟩ | ⟨ps, pe, hps, hpe, rfl, rfl, rfl⟩
        · have HKO : Hid (KeyOk s none ((l.drop p).take (ke - p))) := trivial
          go_wp2_with fail
          refine Calls.mono (HA2.out _ ⟨_, rfl⟩) ?_
          rintro e w' ⟨⟨q4, hw'⟩, hcase⟩
          subst hw'
          rcases hcase with ⟨he, hcn2⟩ | ⟨rfl, hcn2⟩
          · rw [← HP2.out] at he
            subst he
            have HF' : Hid (MapCanon s (Canon s f) (itemLen f) x none (l.drop (pos + q)) ↔ MapCanon s (Canon s f) (itemLen f) (x - (j + 1)) (some ((l.drop p).take (ke - p))) ((l.drop (pos + q)).drop (c' + a1 + a2))) := HST.out.trans ⟨fun h => h.2.2.2, fun h => ⟨HCN.out, HKO.out, hcn2, h⟩⟩
            have HP' : Hid (PrevAt l n (some ((l.drop p).take (ke - p))) (.int .i64 (p : Nat)) (.int .i64 (ke : Nat))) := .inr ⟨p, ke, by omega, by omega, rfl, rfl, rfl⟩
            clear hcn2 HST HF HA2 HCN HKO
            go_wp2_with fail
            go_round
            case rel => exact ⟨j + 1, c' + a1 + a2, d2, q4, _, p2, by have h1 := HPP.out; have h2 := HKE.out; have h3 := HP2.out; show p2 = _; omega, by omega, by go_num, rfl, by omega, rfl, HM', HF', HP'⟩
            case measure => simp [intOf]; omega
          · have HN : Hid (¬ Canon s (f + 1) (l.drop pos)) := fun h => hcn2 (HST.out.1 (HIFF.out.1 h)).2.2.1
            clear hcn2 HST HF HA2
            go_wp2_with fail
            go_ret2
            exact ⟨⟨_, rfl⟩, .inr ⟨rfl, HN.out⟩⟩
        · have HCMP : Hid (∀ w0, (∃ q, w0 = w.drewN q) → Calls Try.prog 23 #[.slice (some ⟨b, off + ps, none⟩) (pe - ps) (cap - ps), .slice (some ⟨b, off + p, none⟩) (ke - p) (cap - p)] w0 fun e w' => e = .returned (.int .i64 (compareBytes ((l.drop ps).take (pe - ps)) ((l.drop p).take (ke - p)))) ∧ ∃ q, w' = w.drewN q) := by
            rintro w0 ⟨q0, rfl⟩
            refine (compare_any _ (pe - ps) (cap - ps) _ _ (ke - p) (cap - p) _ _ ((HB.out.drewN q0).part hcap ps pe hps hpe) ((HB.out.drewN q0).part hcap p ke (by omega) (by omega)) (by omega) (by omega)).mono ?_
            rintro e w' ⟨rfl, q1, rfl⟩
            exact ⟨rfl, q0 + q1, World.drewN_drewN _ _ _⟩
          have hKO : KeyOk s (some ((l.drop ps).take (pe - ps))) ((l.drop p).take (ke - p)) ↔ compareBytes ((l.drop ps).take (pe - ps)) ((l.drop p).take (ke - p)) < 0 ∨ s = false ∧ compareBytes ((l.drop ps).take (pe - ps)) ((l.drop p).take (ke - p)) = 0 := Iff.rfl
          generalize hR : compareBytes ((l.drop ps).take (pe - ps)) ((l.drop p).take (ke - p)) = R at hKO HCMP
          have HKI : Hid _ := hKO
          clear hKO hR
          have n1 : ¬ cap = ps := by omega
          have n2 : ¬ cap = p := by omega
          have j1 : (ps : Int) ≤ pe := by omega
          have j2 : (pe : Int) ≤ cap := by omega
          have j3 : (p : Int) ≤ ke := by omega
          have j4 : (ke : Int) ≤ cap := by omega
          have j5 : (0 : Int) ≤ ps := by omega
          go_wp2_with fail
          go_region_held3 (fun _ => True) (trivial) (first | (go_at_call 23; refine (HCMP.out _ ⟨_, rfl⟩).mono ?_; rintro e w' ⟨rfl, q3, rfl⟩))
          have hRd : R < 0 ∨ R = 0 ∨ 0 < R := by omega
          cases s
          · rcases hRd with hR | rfl | hR
            · have HKO : Hid (KeyOk false (some ((l.drop ps).take (pe - ps))) ((l.drop p).take (ke - p))) := HKI.out.2 (.inl hR)
              have r1 : decide (R > 0) = false := by simp; omega
              have r2 : (R == 0) = false := by simp; omega
              clear HKI HCMP
              go_wp2_with fail
              refine Calls.mono (HA2.out _ ⟨_, rfl⟩) ?_
              rintro e w' ⟨⟨q4, hw'⟩, hcase⟩
              subst hw'
              rcases hcase with ⟨he, hcn2⟩ | ⟨rfl, hcn2⟩
              · rw [← HP2.out] at he
                subst he
                have HF' : Hid (MapCanon false (Canon false f) (itemLen f) x none (l.drop (pos + q)) ↔ MapCanon false (Canon false f) (itemLen f) (x - (j + 1)) (some ((l.drop p).take (ke - p))) ((l.drop (pos + q)).drop (c' + a1 + a2))) := HST.out.trans ⟨fun h => h.2.2.2, fun h => ⟨HCN.out, HKO.out, hcn2, h⟩⟩
                have HP' : Hid (PrevAt l n (some ((l.drop p).take (ke - p))) (.int .i64 (p : Nat)) (.int .i64 (ke : Nat))) := .inr ⟨p, ke, by omega, by omega, rfl, rfl, rfl⟩
                clear hcn2 HST HF HA2 HCN HKO
                go_wp2_with fail
                go_round
                case rel => exact ⟨j + 1, c' + a1 + a2, d2, q4, _, p2, by have h1 := HPP.out; have h2 := HKE.out; have h3 := HP2.out; show p2 = _; omega, by omega, by go_num, rfl, by omega, rfl, HM', HF', HP'⟩
                case measure => simp [intOf]; omega
              · have HN : Hid (¬ Canon false (f + 1) (l.drop pos)) := fun h => hcn2 (HST.out.1 (HIFF.out.1 h)).2.2.1
                clear hcn2 HST HF HA2
                go_wp2_with fail
                go_ret2
                exact ⟨⟨_, rfl⟩, .inr ⟨rfl, HN.out⟩⟩
            · have HKO : Hid (KeyOk false (some ((l.drop ps).take (pe - ps))) ((l.drop p).take (ke - p))) := HKI.out.2 (.inr ⟨rfl, rfl⟩)
              clear HKI HCMP
              go_wp2_with fail
              refine Calls.mono (HA2.out _ ⟨_, rfl⟩) ?_
              rintro e w' ⟨⟨q4, hw'⟩, hcase⟩
              subst hw'
              rcases hcase with ⟨he, hcn2⟩ | ⟨rfl, hcn2⟩
              · rw [← HP2.out] at he
                subst he
                have HF' : Hid (MapCanon false (Canon false f) (itemLen f) x none (l.drop (pos + q)) ↔ MapCanon false (Canon false f) (itemLen f) (x - (j + 1)) (some ((l.drop p).take (ke - p))) ((l.drop (pos + q)).drop (c' + a1 + a2))) := HST.out.trans ⟨fun h => h.2.2.2, fun h => ⟨HCN.out, HKO.out, hcn2, h⟩⟩
                have HP' : Hid (PrevAt l n (some ((l.drop p).take (ke - p))) (.int .i64 (p : Nat)) (.int .i64 (ke : Nat))) := .inr ⟨p, ke, by omega, by omega, rfl, rfl, rfl⟩
                clear hcn2 HST HF HA2 HCN HKO
                go_wp2_with fail
                go_round
                case rel => exact ⟨j + 1, c' + a1 + a2, d2, q4, _, p2, by have h1 := HPP.out; have h2 := HKE.out; have h3 := HP2.out; show p2 = _; omega, by omega, by go_num, rfl, by omega, rfl, HM', HF', HP'⟩
                case measure => simp [intOf]; omega
              · have HN : Hid (¬ Canon false (f + 1) (l.drop pos)) := fun h => hcn2 (HST.out.1 (HIFF.out.1 h)).2.2.1
                clear hcn2 HST HF HA2
                go_wp2_with fail
                go_ret2
                exact ⟨⟨_, rfl⟩, .inr ⟨rfl, HN.out⟩⟩
            · have r1 : decide (R > 0) = true := by simp; omega
              have HN : Hid (¬ Canon false (f + 1) (l.drop pos)) := fun h => by
                have := HKI.out.1 (HST.out.1 (HIFF.out.1 h)).2.1
                omega
              clear HST HF HA2 HKI HCMP
              go_wp2_with fail
              go_ret2
              exact ⟨⟨_, rfl⟩, .inr ⟨rfl, HN.out⟩⟩
          · rcases hRd with hR | rfl | hR
            · have HKO : Hid (KeyOk true (some ((l.drop ps).take (pe - ps))) ((l.drop p).take (ke - p))) := HKI.out.2 (.inl hR)
              have r1 : decide (R > 0) = false := by simp; omega
              have r2 : (R == 0) = false := by simp; omega
              clear HKI HCMP
              go_wp2_with fail
              refine Calls.mono (HA2.out _ ⟨_, rfl⟩) ?_
              rintro e w' ⟨⟨q4, hw'⟩, hcase⟩
              subst hw'
              rcases hcase with ⟨he, hcn2⟩ | ⟨rfl, hcn2⟩
              · rw [← HP2.out] at he
                subst he
                have HF' : Hid (MapCanon true (Canon true f) (itemLen f) x none (l.drop (pos + q)) ↔ MapCanon true (Canon true f) (itemLen f) (x - (j + 1)) (some ((l.drop p).take (ke - p))) ((l.drop (pos + q)).drop (c' + a1 + a2))) := HST.out.trans ⟨fun h => h.2.2.2, fun h => ⟨HCN.out, HKO.out, hcn2, h⟩⟩
                have HP' : Hid (PrevAt l n (some ((l.drop p).take (ke - p))) (.int .i64 (p : Nat)) (.int .i64 (ke : Nat))) := .inr ⟨p, ke, by omega, by omega, rfl, rfl, rfl⟩
                clear hcn2 HST HF HA2 HCN HKO
                go_wp2_with fail
                go_round
                case rel => exact ⟨j + 1, c' + a1 + a2, d2, q4, _, p2, by have h1 := HPP.out; have h2 := HKE.out; have h3 := HP2.out; show p2 = _; omega, by omega, by go_num, rfl, by omega, rfl, HM', HF', HP'⟩
                case measure => simp [intOf]; omega
              · have HN : Hid (¬ Canon true (f + 1) (l.drop pos)) := fun h => hcn2 (HST.out.1 (HIFF.out.1 h)).2.2.1
                clear hcn2 HST HF HA2
                go_wp2_with fail
                go_ret2
                exact ⟨⟨_, rfl⟩, .inr ⟨rfl, HN.out⟩⟩
            · have HN : Hid (¬ Canon true (f + 1) (l.drop pos)) := fun h => by
                have := HKI.out.1 (HST.out.1 (HIFF.out.1 h)).2.1
                simp at this
              clear HST HF HA2 HKI HCMP
              go_wp2_with fail
              go_ret2
              exact ⟨⟨_, rfl⟩, .inr ⟨rfl, HN.out⟩⟩
            · have r1 : decide (R > 0) = true := by simp; omega
              have HN : Hid (¬ Canon true (f + 1) (l.drop pos)) := fun h => by
                have := HKI.out.1 (HST.out.1 (HIFF.out.1 h)).2.1
                omega
              clear HST HF HA2 HKI HCMP
              go_wp2_with fail
              go_ret2
              exact ⟨⟨_, rfl⟩, .inr ⟨rfl, HN.out⟩⟩
      · have HN : Hid (¬ Canon s (f + 1) (l.drop pos)) := fun h => hcn (HST.out.1 (HIFF.out.1 h)).1
        clear hcn HST HF HA2 HP
        go_wp2_with fail
        go_ret2
        exact ⟨⟨_, rfl⟩, .inr ⟨rfl, HN.out⟩⟩
    · obtain rfl : j = x := by omega
      rw [Nat.sub_self] at HJ HF
      have hd := HJ.out.done
      have HY : Hid (Canon s (f + 1) (l.drop pos)) := HIFF.out.2 (HF.out.2 trivial)
      go_wp2_with fail
      go_ret2
      exact ⟨⟨_, rfl⟩, .inl ⟨ret_pos (by have := HPP.out; omega), HY.out⟩⟩

end Go.Proofs.Qxb6604654a

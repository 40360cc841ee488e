/-
  FnAppendCanonicalIsDeterministicEncoding: the law's walk.
-/
import Derived.Test.Qxb6604654aCanonAll
import Derived.Test.Qxb6604654aCanonAtAll
import Derived.Test.Qxb6604654aSemAll
import Derived.Test.Qxb6604654aItemLen
namespace Go.Proofs.Qxb6604654a
open Go.RowKit

theorem bytesDet_any (ao : Option Addr) (n cap : Nat) (ao2 : Option Addr) (n2 cap2 : Nat) (w : World) (hn : n ≤ 9223372036854775807) (hn2 : n2 ≤ 9223372036854775807) :
    Calls Try.prog 7 #[.slice ao n cap, .slice ao2 n2 cap2] w fun e w' => IsBool e ∧ w' = w := by
  go_enter Try.func7, Try.ntmps7
  go_wp2
  all_goals (go_ret; exact ⟨IsBool.mk _, rfl⟩)

theorem WF_unique {l : List UInt8} {s t : Nat} (h1 : WF 1 l s) (h2 : WF 1 l t) : s = t := by
  obtain ⟨f, hf⟩ := (WF_one l s).1 h1
  obtain ⟨g, hg⟩ := (WF_one l t).1 h2
  have e1 := itemLen_mono (Nat.le_max_left f g) hf
  have e2 := itemLen_mono (Nat.le_max_right f g) hg
  rw [e1] at e2
  exact Option.some.inj e2

set_option maxHeartbeats 2000000 in
set_option maxRecDepth 100000 in
theorem law8_walk (aod : Option Addr) (nd cd : Nat) (ld : List UInt8) (ao : Option Addr) (n cap : Nat) (l : List UInt8) (w : World) (hd : BytesAt w aod nd ld) (hb : BytesAt w ao n l) (hnd : nd ≤ 9223372036854775807) (hn : n ≤ 9223372036854775807) :
    Calls Try.prog 3 #[.slice aod nd cd, .slice ao n cap] w fun e w' => e = .returned (.bool true) ∧ Below w.heap.size w w' := by
  have HD : Hid (BytesAt w aod nd ld) := hd
  have HS : Hid (BytesAt w ao n l) := hb
  clear hd hb
  go_enter Try.func3, Try.ntmps3
  go_wp2_with fail
  refine (bytesDet_any aod nd cd ao n cap w hnd hn).mono ?_
  rintro e w' ⟨⟨t, rfl⟩, hw⟩
  obtain rfl : w = w' := hw.symm
  clear hw
  cases t with
  | false =>
    go_wp2_with fail
    go_ret
    exact ⟨rfl, Below.refl _ _⟩
  | true =>
    by_cases g1 : 16384 < nd
    · have g1' : (16384 : Int) < nd := by omega
      go_wp2_with fail
      go_ret
      exact ⟨rfl, Below.refl _ _⟩
    have g1d : decide ((16384 : Int) < nd) = false := by simp; omega
    by_cases g2 : 16384 < n
    · have g2' : (16384 : Int) < n := by omega
      go_wp2_with fail
      go_ret
      exact ⟨rfl, Below.refl _ _⟩
    have g2d : decide ((16384 : Int) < n) = false := by simp; omega
    have HL : Hid _ := itemLen_walk ao n cap l w HS.out (by omega)
    go_wp2_with fail
    refine Calls.mono HL.out ?_
    clear HL
    rintro e w' ⟨hp, hw⟩
    obtain rfl : w = w' := hw.symm
    clear hw
    rcases hp with ⟨a, hwf, rfl⟩ | ⟨_, rfl⟩
    case inr =>
      go_wp2_with fail
      go_ret
      exact ⟨rfl, Below.refl _ _⟩
    obtain ⟨f, hf⟩ := (WF_one l a).1 hwf
    have hfl := itemLen_le _ _ _ hf
    have hlen := HS.out.len
    have hlend := HD.out.len
    rw [hlen] at hfl
    have HF : Hid (itemLen f l = some a) := hf
    clear hwf hf
    have HC1 : Hid _ := clone_any aod nd cd ld w HD.out (by omega)
    go_wp2_with fail
    refine Calls.mono HC1.out ?_
    clear HC1
    rintro e w1 ⟨vd, rfl, hod, hb1, hvd⟩
    have OD : Hid (Own w1 vd ld) := hod
    have B1 : Hid (Below w.heap.size w w1) := hb1
    have VD : Hid (∀ g, vd.ownBlock = some g → w.heap.size ≤ g) := hvd
    have HC2 : Hid _ := clone_any ao n cap l w1 (HS.out.mono hb1) (by omega)
    clear hod hb1 hvd
    obtain ⟨aD, cD, rfl, hcD, hnD⟩ := OD.out.shape
    rw [hlend] at OD VD hcD ⊢
    go_wp2_with fail
    refine Calls.mono HC2.out ?_
    clear HC2
    rintro e w2 ⟨vb, rfl, hob, hb2, hvb⟩
    obtain ⟨aB, cB, rfl, hcB, hnB⟩ := hob.shape
    rw [hlen] at hob hvb hcB ⊢
    obtain ⟨bb, ob, rfl, _⟩ := hob.bytes.cells (by omega)
    have hcapB := hob.capBound
    have BB : Hid (BytesAt w2 (some ⟨bb, ob, none⟩) n l) := hob.bytes
    have OD2 : Hid (Own w2 (.slice aD nd cD) ld) := OD.out.below hb2
    have HNE : Hid ((Value.slice aD nd cD).ownBlock ≠ some bb) := fun e => by
      have t1 := OD.out.lt e
      have t2 := hvb bb rfl
      omega
    have B2 : Hid (Below w.heap.size w w2) := B1.out.trans (hb2.mono B1.out.size)
    have HZ : Hid (Calls Try.prog 10 #[.slice aD nd cD, .slice (some ⟨bb, ob, none⟩) n cB] w2 (CanonPost f w2 (.slice aD nd cD) ld bb n cB l a)) := zzcanon f w2 (.slice aD nd cD) ld bb ob n cB l a OD2.out BB.out HNE.out hcB hcapB (by omega) HF.out
    clear hob hb2 hvb OD B1 hnB
    go_wp2_with fail
    refine Calls.mono HZ.out ?_
    clear HZ
    rintro e w3 ⟨vo, off', o, rfl, en, owo, exo, bo⟩
    have hol := Enc_len f l o a en HF.out
    have HWF : Hid (itemLen f o = some o.length) := Enc_wf f l o a en HF.out
    have HCN : Hid (Canon false f o) := Enc_canon f l o a en HF.out
    have HEN : Hid (Enc f l o) := en
    obtain ⟨aO, cO, rfl, hcO, hnO⟩ := owo.shape
    have hll : (ld ++ o).length = nd + o.length := by rw [List.length_append, hlend]
    have hcbO := owo.capBound
    rw [hll] at owo hcO exo ⊢
    have OO : Hid (BytesAt w3 aO (nd + o.length) (ld ++ o)) := owo.bytes
    have DD : Hid (BytesAt w3 aD nd ld) := (exo.keeps _ _ OD2.out (fun _ => by rw [hlend]; exact Nat.le_refl _)).bytes
    have BB3 : Hid (BytesAt w3 (some ⟨bb, ob, none⟩) n l) := exo.bytesAt BB.out HNE.out
    have BR : Hid (BytesAt w3 (some ⟨bb, off', none⟩) (n - a) (l.drop a)) := bo
    have B3 : Hid (Below w.heap.size w w3) := exo.below B2.out B2.out.size VD.out
    clear owo exo bo en OD2 BB HNE B2 hll VD hnO hnD
    have hop : 1 ≤ o.length := (itemLen_le f o o.length HWF.out).1
    have ha1 : 1 ≤ a := hfl.1
    have hapos : a ≤ n := hfl.2
    obtain ⟨bO, oO, eO, _⟩ := OO.out.cells (by omega)
    subst eO
    have HPX : Hid (Calls Try.prog 11 #[.slice (some ⟨bO, oO, none⟩) (nd + o.length) cO, .slice aD nd cD] w3 fun e w' => e = .returned (.bool true) ∧ ∃ q, w' = w3.drewN q) := hasPrefix_yes _ (nd + o.length) cO o aD nd cD ld _ OO.out DD.out (by omega)
    have hcutO := OO.out.cut hcO nd (by omega)
    rw [cutAt_some (by omega), show nd + o.length - nd = o.length from by omega, ← hlend, List.drop_left, hlend] at hcutO
    have OI : Hid (BytesAt w3 (some ⟨bO, oO + nd, none⟩) o.length o) := hcutO
    have n1 : ¬ cO = nd := by omega
    have i1 : (nd : Int) ≤ nd + o.length := by omega
    have i0 : (nd : Int) ≤ cO := by omega
    clear hcutO OO DD
    go_wp2_with fail
    refine Calls.mono HPX.out ?_
    clear HPX
    rintro e w' ⟨rfl, q1, rfl⟩
    have HIL : Hid (Calls Try.prog 8 #[.slice (some ⟨bO, oO + nd, none⟩) o.length (cO - nd)] (w3.drewN q1) fun e w' => LenPost o e ∧ w' = w3.drewN q1) := itemLen_walk _ o.length (cO - nd) o _ (OI.out.drewN q1) (by omega)
    go_wp2_with fail
    refine Calls.mono HIL.out ?_
    clear HIL
    rintro e w' ⟨hp, hw⟩
    subst hw
    have hwo : WF 1 o o.length := (WF_one o o.length).2 ⟨f, HWF.out⟩
    rcases hp with ⟨t, hwf, rfl⟩ | ⟨hno, _⟩
    case inr => exact absurd hwo (hno _)
    obtain rfl : o.length = t := WF_unique hwo hwf
    clear hwf hwo
    have HK : Hid (Calls Try.prog 12 #[.slice (some ⟨bO, oO + nd, none⟩) o.length (cO - nd), .int .i64 0, .bool false] (w3.drewN q1) (CanPost false f o 0 o.length (w3.drewN q1))) := canAt false bO (oO + nd) o.length (cO - nd) o (by omega) (by omega) (by omega) f _ 0 o.length (OI.out.drewN q1) HWF.out
    go_wp2_with fail
    refine Calls.mono HK.out ?_
    clear HK
    rintro e w' ⟨⟨q2, hw⟩, hcase⟩
    rw [World.drewN_drewN] at hw
    subst hw
    rcases hcase with ⟨rfl, _⟩ | ⟨_, hno⟩
    case inr => exact absurd HCN.out hno
    obtain ⟨rep, hrep⟩ := exists_rep
    have HSE : Hid (Calls Try.prog 13 #[.slice (some ⟨bO, oO + nd, none⟩) o.length (cO - nd), .int .i64 0, .slice (some ⟨bb, ob, none⟩) n cB, .int .i64 0] (w3.drewN (q1 + q2)) (SemRes (nf rep f (o.drop 0) = nf rep f (l.drop 0)) (0 + o.length) (0 + a) (w3.drewN (q1 + q2)))) :=
      semC rep hrep bO (oO + nd) o.length (cO - nd) o bb ob n cB l (by omega) (by omega) (by omega) hcB (by omega) hcapB f (w3.drewN (q1 + q2)) 0 o.length 0 a (OI.out.drewN _) (BB3.out.drewN _) HWF.out HF.out
    have HNF : Hid (nf rep f (o.drop 0) = nf rep f (l.drop 0)) := Enc_nf hrep f l o a HEN.out HF.out
    go_wp2_with fail
    refine Calls.mono HSE.out ?_
    clear HSE
    rintro e w4 ⟨t, r1, r2, rfl, ht, _, hb4⟩
    obtain rfl : t = true := ht.2 HNF.out
    have B4 : Hid (Below w.heap.size w w4) := (below_drewN B3.out _).trans (hb4.mono (below_drewN B3.out _).size)
    have BB4 : Hid (BytesAt w4 (some ⟨bb, ob, none⟩) n l) := (BB3.out.drewN _).mono hb4
    have BR4 : Hid (BytesAt w4 (some ⟨bb, off', none⟩) (n - a) (l.drop a)) := (BR.out.drewN _).mono hb4
    clear ht hb4 HNF BB3 BR OI HCN HEN
    obtain ⟨oR, hoR⟩ := cutAt_at bb ob cB a
    have hcutB := BB4.out.cut hcB a hapos
    rw [hoR] at hcutB
    have HQ : Hid (Calls Try.prog 14 #[.slice (some ⟨bb, off', none⟩) (n - a) (cB - a), .slice (some ⟨bb, oR, none⟩) (n - a) (cB - a)] w4 fun e w' => e = .returned (.bool true) ∧ ∃ q, w' = w4.drewN q) := by
      refine (equal_any _ (n - a) (cB - a) (l.drop a) _ (n - a) (cB - a) (l.drop a) _ BR4.out hcutB (by omega) (by omega)).mono ?_
      rintro e w' ⟨rfl, q2, rfl⟩
      exact ⟨by simp [sameB], q2, rfl⟩
    have i2 : (a : Int) ≤ cB := by omega
    have i3 : (a : Int) ≤ n := by omega
    clear hcutB BB4 BR4
    by_cases hcba : cB = a
    · have eR : oR = ob := by
        rw [hcba, cutAt_end] at hoR
        simp at hoR
        exact hoR.symm
      subst eR
      subst hcba
      obtain rfl : n = cB := by omega
      rw [Nat.sub_self] at HQ
      clear hoR
      go_wp2_with fail
      refine Calls.mono HQ.out ?_
      rintro e w' ⟨rfl, q5, rfl⟩
      go_wp2_with fail
      go_ret
      exact ⟨rfl, below_drewN B4.out _⟩
    · have eR : oR = ob + a := by
        rw [cutAt_some hcba] at hoR
        simp at hoR
        exact hoR.symm
      subst eR
      clear hoR
      go_wp2_with fail
      refine Calls.mono HQ.out ?_
      rintro e w' ⟨rfl, q5, rfl⟩
      go_wp2_with fail
      go_ret
      exact ⟨rfl, below_drewN B4.out _⟩

end Go.Proofs.Qxb6604654a

/-
  FnAppendCanonicalLeavesCanonicalAlone: the law's walk.
-/
import Derived.Test.Qxb6604654aCanonAll
import Derived.Test.Qxb6604654aCanonAtAll
import Derived.Test.Qxb6604654aMath3
import Derived.Test.Qxb6604654aItemLen
namespace Go.Proofs.Qxb6604654a
open Go.RowKit

theorem bytesLeaves_any (ao : Option Addr) (n cap : Nat) (ao2 : Option Addr) (n2 cap2 : Nat) (w : World) (hn : n ≤ 9223372036854775807) (hn2 : n2 ≤ 9223372036854775807) :
    Calls Try.prog 15 #[.slice ao n cap, .slice ao2 n2 cap2] w fun e w' => IsBool e ∧ w' = w := by
  go_enter Try.func15, Try.ntmps15
  go_wp2
  all_goals (go_ret; exact ⟨IsBool.mk _, rfl⟩)

set_option maxHeartbeats 2000000 in
set_option maxRecDepth 100000 in
theorem law7_walk (aod : Option Addr) (nd cd : Nat) (ld : List UInt8) (ao : Option Addr) (n cap : Nat) (l : List UInt8) (w : World) (hd : BytesAt w aod nd ld) (hb : BytesAt w ao n l) (hnd : nd ≤ 9223372036854775807) (hn : n ≤ 9223372036854775807) :
    Calls Try.prog 4 #[.slice aod nd cd, .slice ao n cap] w fun e w' => e = .returned (.bool true) ∧ Below w.heap.size w w' := by
  have HD : Hid (BytesAt w aod nd ld) := hd
  have HS : Hid (BytesAt w ao n l) := hb
  clear hd hb
  go_enter Try.func4, Try.ntmps4
  go_wp2_with fail
  refine (bytesLeaves_any aod nd cd ao n cap w hnd hn).mono ?_
  rintro e w' ⟨⟨t, rfl⟩, hw⟩
  obtain rfl : w = w' := hw.symm
  clear hw
  cases t with
  | false =>
    go_wp2_with fail
    go_ret
    exact ⟨rfl, Below.refl _ _⟩
  | true =>
    by_cases g1 : 65536 < nd
    · have g1' : (65536 : Int) < nd := by omega
      go_wp2_with fail
      go_ret
      exact ⟨rfl, Below.refl _ _⟩
    have g1d : decide ((65536 : Int) < nd) = false := by simp; omega
    by_cases g2 : 65536 < n
    · have g2' : (65536 : Int) < n := by omega
      go_wp2_with fail
      go_ret
      exact ⟨rfl, Below.refl _ _⟩
    have g2d : decide ((65536 : Int) < n) = false := by simp; omega
    have HL : Hid _ := itemLen_walk ao n cap l w HS.out (by omega)
    go_wp2_with fail
    refine Calls.mono HL.out ?_
    clear HL
    rintro e w' ⟨hp, hw⟩
    obtain rfl : w = w' := hw.symm
    clear hw
    rcases hp with ⟨a, hwf, rfl⟩ | ⟨_, rfl⟩
    case inr =>
      go_wp2_with fail
      go_ret
      exact ⟨rfl, Below.refl _ _⟩
    obtain ⟨f, hf⟩ := (WF_one l a).1 hwf
    have hfl := itemLen_le _ _ _ hf
    have hlen := HS.out.len
    have hlend := HD.out.len
    rw [hlen] at hfl
    have HF : Hid (itemLen f l = some a) := hf
    clear hwf hf
    have HC1 : Hid _ := clone_any aod nd cd ld w HD.out (by omega)
    go_wp2_with fail
    refine Calls.mono HC1.out ?_
    clear HC1
    rintro e w1 ⟨vd, rfl, hod, hb1, hvd⟩
    have OD : Hid (Own w1 vd ld) := hod
    have B1 : Hid (Below w.heap.size w w1) := hb1
    have VD : Hid (∀ g, vd.ownBlock = some g → w.heap.size ≤ g) := hvd
    have HC2 : Hid _ := clone_any ao n cap l w1 (HS.out.mono hb1) (by omega)
    clear hod hb1 hvd
    obtain ⟨aD, cD, rfl, hcD, hnD⟩ := OD.out.shape
    rw [hlend] at OD VD hcD ⊢
    go_wp2_with fail
    refine Calls.mono HC2.out ?_
    clear HC2
    rintro e w2 ⟨vb, rfl, hob, hb2, hvb⟩
    obtain ⟨aB, cB, rfl, hcB, hnB⟩ := hob.shape
    rw [hlen] at hob hvb hcB ⊢
    obtain ⟨bb, ob, rfl, _⟩ := hob.bytes.cells (by omega)
    have hcapB := hob.capBound
    have OB : Hid (Own w2 (.slice (some ⟨bb, ob, none⟩) n cB) l) := hob
    have BB : Hid (BytesAt w2 (some ⟨bb, ob, none⟩) n l) := hob.bytes
    have OD2 : Hid (Own w2 (.slice aD nd cD) ld) := OD.out.below hb2
    have HNE : Hid ((Value.slice aD nd cD).ownBlock ≠ some bb) := fun e => by
      have t1 := OD.out.lt e
      have t2 := hvb bb rfl
      omega
    have B2 : Hid (Below w.heap.size w w2) := B1.out.trans (hb2.mono B1.out.size)
    have HK1 : Hid (Calls Try.prog 12 #[.slice (some ⟨bb, ob, none⟩) n cB, .int .i64 0, .bool true] w2 (CanPost true f l 0 a w2)) := canAt true bb ob n cB l (by omega) hcB hcapB f w2 0 a BB.out HF.out
    have HK2 : Hid (∀ q, Calls Try.prog 12 #[.slice (some ⟨bb, ob, none⟩) n cB, .int .i64 0, .bool false] (w2.drewN q) (CanPost false f l 0 a (w2.drewN q))) := fun q => canAt false bb ob n cB l (by omega) hcB hcapB f (w2.drewN q) 0 a (BB.out.drewN q) HF.out
    have HZ : Hid (∀ q, Calls Try.prog 10 #[.slice aD nd cD, .slice (some ⟨bb, ob, none⟩) n cB] (w2.drewN q) (CanonPost f (w2.drewN q) (.slice aD nd cD) ld bb n cB l a)) := fun q => zzcanon f (w2.drewN q) (.slice aD nd cD) ld bb ob n cB l a (OD2.out.drewN q) (BB.out.drewN q) HNE.out hcB hcapB (by omega) HF.out
    clear hob hb2 hvb OD B1 hnB
    go_wp2_with fail
    refine Calls.mono HK1.out ?_
    clear HK1
    rintro e w' ⟨⟨q1, rfl⟩, hcase⟩
    have hcs : ∃ t1 p1, e = .returned (.tuple #[.int .i64 p1, .bool t1]) ∧ (t1 = true ↔ Canon true f l) := by
      rcases hcase with ⟨he, hc⟩ | ⟨he, hc⟩
      · exact ⟨true, _, he, by simpa using hc⟩
      · exact ⟨false, _, he, by simpa using hc⟩
    obtain ⟨t1, p1, rfl, h1⟩ := hcs
    have H1 : Hid (t1 = true ↔ Canon true f l) := h1
    clear h1 hcase
    go_wp2_with fail
    refine Calls.mono (HK2.out q1) ?_
    clear HK2
    rintro e w' ⟨⟨q2, hw'⟩, hcase⟩
    rw [World.drewN_drewN] at hw'
    subst hw'
    have hcs : ∃ t2 p2, e = .returned (.tuple #[.int .i64 p2, .bool t2]) ∧ (t2 = true ↔ Canon false f l) := by
      rcases hcase with ⟨he, hc⟩ | ⟨he, hc⟩
      · exact ⟨true, _, he, by simpa using hc⟩
      · exact ⟨false, _, he, by simpa using hc⟩
    obtain ⟨t2, p2, rfl, h2⟩ := hcs
    have H2 : Hid (t2 = true ↔ Canon false f l) := h2
    clear h2 hcase
    go_wp2_with fail
    refine Calls.mono (HZ.out (q1 + q2)) ?_
    clear HZ
    rintro e w3 ⟨vo, off', o, rfl, en, owo, exo, bo⟩
    have hol := Enc_len f l o a en HF.out
    have HEN : Hid (Enc f l o) := en
    have hstr : t1 = true → o = l.take a := fun e => Enc_same f l o a en HF.out (H1.out.1 e)
    have hweak : o = l.take a → t2 = true := fun e => by
      have hc := Enc_canon f l o a en HF.out
      rw [e] at hc
      have hi := itemLen_take f l a HF.out a (Nat.le_refl _)
      have := Canon_append f (l.take a) (l.drop a) a hi hc
      rw [List.take_append_drop] at this
      exact H2.out.2 this
    obtain ⟨aO, cO, rfl, hcO, hnO⟩ := owo.shape
    have hll : (ld ++ o).length = nd + o.length := by rw [List.length_append, hlend]
    have hcbO := owo.capBound
    rw [hll] at owo hcO exo ⊢
    have OO : Hid (BytesAt w3 aO (nd + o.length) (ld ++ o)) := owo.bytes
    have DD : Hid (BytesAt w3 aD nd ld) := (exo.keeps _ _ (OD2.out.drewN _) (fun _ => by rw [hlend]; exact Nat.le_refl _)).bytes
    have BB3 : Hid (BytesAt w3 (some ⟨bb, ob, none⟩) n l) := exo.bytesAt (BB.out.drewN _) HNE.out
    have BR : Hid (BytesAt w3 (some ⟨bb, off', none⟩) (n - a) (l.drop a)) := bo
    have B3 : Hid (Below w.heap.size w w3) := exo.below (below_drewN B2.out _) B2.out.size VD.out
    clear owo exo bo en H1 H2 OD2 BB HNE B2 OB hll VD hnO hnD
    have HOP : Hid (1 ≤ o.length) := by
      have := itemLen_le f o o.length (Enc_wf f l o a HEN.out HF.out)
      exact this.1
    have ha1 : 1 ≤ a := hfl.1
    have hapos : a ≤ n := hfl.2
    have hop := HOP.out
    obtain ⟨bO, oO, eO, _⟩ := OO.out.cells (by omega)
    subst eO
    have HPX : Hid (∀ q, Calls Try.prog 11 #[.slice (some ⟨bO, oO, none⟩) (nd + o.length) cO, .slice aD nd cD] (w3.drewN q) _) := fun q => hasPrefix_yes _ (nd + o.length) cO o aD nd cD ld _ (OO.out.drewN q) (DD.out.drewN q) (by omega)
    have hcutO := OO.out.cut hcO nd (by omega)
    rw [cutAt_some (by omega), show nd + o.length - nd = o.length from by omega, ← hlend, List.drop_left, hlend] at hcutO
    have HEQ : Hid (∀ q, Calls Try.prog 14 #[.slice (some ⟨bO, oO + nd, none⟩) o.length (cO - nd), .slice (some ⟨bb, ob, none⟩) a cB] (w3.drewN q) _) := fun q => equal_any _ o.length (cO - nd) o _ a cB (l.take a) _ (hcutO.drewN q) ((BB3.out.front a hapos).drewN q) (by omega) (by omega)
    obtain ⟨oR, hoR⟩ := cutAt_at bb ob cB a
    have hcutB := BB3.out.cut hcB a hapos
    rw [hoR] at hcutB
    have HQ : Hid (∀ w0, (∃ q, w0 = w3.drewN q) → Calls Try.prog 14 #[.slice (some ⟨bb, off', none⟩) (n - a) (cB - a), .slice (some ⟨bb, oR, none⟩) (n - a) (cB - a)] w0 fun e w' => e = .returned (.bool true) ∧ ∃ q, w' = w3.drewN q) := by
      rintro w0 ⟨q, rfl⟩
      refine (equal_any _ (n - a) (cB - a) (l.drop a) _ (n - a) (cB - a) (l.drop a) _ (BR.out.drewN q) (hcutB.drewN q) (by omega) (by omega)).mono ?_
      rintro e w' ⟨rfl, q2, rfl⟩
      exact ⟨by simp [sameB], q + q2, World.drewN_drewN _ _ _⟩
    have i1 : (nd : Int) ≤ nd + o.length := by omega
    have i2 : (a : Int) ≤ cB := by omega
    have i3 : (a : Int) ≤ n := by omega
    have n1 : ¬ cO = nd := by omega
    clear hcutO hcutB OO DD BB3 BR hop HOP
    have hta : (l.take a).length = a := by rw [List.length_take, hlen]; omega
    by_cases hcba : cB = a
    · have eR : oR = ob := by
        rw [hcba, cutAt_end] at hoR
        simp at hoR
        exact hoR.symm
      subst eR
      subst hcba
      obtain rfl : n = cB := by omega
      rw [Nat.sub_self] at HQ
      clear hoR
      by_cases heq : o = l.take n
      · obtain rfl : t2 = true := hweak heq
        have hoa : o.length = n := by rw [heq]; exact hta
        have hsb : sameB o (l.take n) = true := by simp [sameB, heq]
        rw [hsb] at HEQ
        rw [hoa] at HEQ HPX hcO i1 ⊢
        clear hstr hweak heq hsb hta hoa hol
        cases t1
        · skip
          go_wp2_with fail
          go_quiet (first | (go_at_call 11; exact Calls.quiet_of (HPX.out _)) | (go_at_call 14; exact Calls.quiet_of (HEQ.out _)))
          go_wp2_with fail
          refine Calls.mono (HQ.out _ ⟨_, rfl⟩) ?_
          rintro e w' ⟨rfl, q5, rfl⟩
          go_wp2_with fail
          go_ret
          exact ⟨rfl, below_drewN B3.out _⟩
        · skip
          go_wp2_with fail
          go_quiet (first | (go_at_call 11; exact Calls.quiet_of (HPX.out _)) | (go_at_call 14; exact Calls.quiet_of (HEQ.out _)))
          go_wp2_with fail
          refine Calls.mono (HQ.out _ ⟨_, rfl⟩) ?_
          rintro e w' ⟨rfl, q5, rfl⟩
          go_wp2_with fail
          go_ret
          exact ⟨rfl, below_drewN B3.out _⟩
      · obtain rfl : t1 = false := by
          cases t1
          · rfl
          · exact absurd (hstr rfl) heq
        have hsb : sameB o (l.take n) = false := by simp [sameB, heq]
        rw [hsb] at HEQ
        clear hstr hweak heq hsb hta
        by_cases hoa : o.length = n
        · rw [hoa] at HEQ HPX hcO i1 ⊢
          clear hoa hol
          cases t2
          · skip
            go_wp2_with fail
            go_quiet (first | (go_at_call 11; exact Calls.quiet_of (HPX.out _)) | (go_at_call 14; exact Calls.quiet_of (HEQ.out _)))
            go_wp2_with fail
            refine Calls.mono (HQ.out _ ⟨_, rfl⟩) ?_
            rintro e w' ⟨rfl, q5, rfl⟩
            go_wp2_with fail
            go_ret
            exact ⟨rfl, below_drewN B3.out _⟩
          · skip
            go_wp2_with fail
            go_quiet (first | (go_at_call 11; exact Calls.quiet_of (HPX.out _)) | (go_at_call 14; exact Calls.quiet_of (HEQ.out _)))
            go_wp2_with fail
            refine Calls.mono (HQ.out _ ⟨_, rfl⟩) ?_
            rintro e w' ⟨rfl, q5, rfl⟩
            go_wp2_with fail
            go_ret
            exact ⟨rfl, below_drewN B3.out _⟩
        · have hne : (((nd : Int) + o.length) == (nd : Int) + n) = false := by simp; omega
          have hne2 : ¬ o.length = n := hoa
          clear HEQ HPX
          cases t2
          · skip
            go_wp2_with fail
            go_quiet (fail)
            go_wp2_with fail
            refine Calls.mono (HQ.out _ ⟨_, rfl⟩) ?_
            rintro e w' ⟨rfl, q5, rfl⟩
            go_wp2_with fail
            go_ret
            exact ⟨rfl, below_drewN B3.out _⟩
          · skip
            go_wp2_with fail
            go_quiet (fail)
            go_wp2_with fail
            refine Calls.mono (HQ.out _ ⟨_, rfl⟩) ?_
            rintro e w' ⟨rfl, q5, rfl⟩
            go_wp2_with fail
            go_ret
            exact ⟨rfl, below_drewN B3.out _⟩
    · have eR : oR = ob + a := by
        rw [cutAt_some hcba] at hoR
        simp at hoR
        exact hoR.symm
      subst eR
      clear hoR
      by_cases heq : o = l.take a
      · obtain rfl : t2 = true := hweak heq
        have hoa : o.length = a := by rw [heq]; exact hta
        have hsb : sameB o (l.take a) = true := by simp [sameB, heq]
        rw [hsb] at HEQ
        rw [hoa] at HEQ HPX hcO i1 ⊢
        clear hstr hweak heq hsb hta hoa hol
        cases t1
        · skip
          go_wp2_with fail
          go_quiet (first | (go_at_call 11; exact Calls.quiet_of (HPX.out _)) | (go_at_call 14; exact Calls.quiet_of (HEQ.out _)))
          go_wp2_with fail
          refine Calls.mono (HQ.out _ ⟨_, rfl⟩) ?_
          rintro e w' ⟨rfl, q5, rfl⟩
          go_wp2_with fail
          go_ret
          exact ⟨rfl, below_drewN B3.out _⟩
        · skip
          go_wp2_with fail
          go_quiet (first | (go_at_call 11; exact Calls.quiet_of (HPX.out _)) | (go_at_call 14; exact Calls.quiet_of (HEQ.out _)))
          go_wp2_with fail
          refine Calls.mono (HQ.out _ ⟨_, rfl⟩) ?_
          rintro e w' ⟨rfl, q5, rfl⟩
          go_wp2_with fail
          go_ret
          exact ⟨rfl, below_drewN B3.out _⟩
      · obtain rfl : t1 = false := by
          cases t1
          · rfl
          · exact absurd (hstr rfl) heq
        have hsb : sameB o (l.take a) = false := by simp [sameB, heq]
        rw [hsb] at HEQ
        clear hstr hweak heq hsb hta
        by_cases hoa : o.length = a
        · rw [hoa] at HEQ HPX hcO i1 ⊢
          clear hoa hol
          cases t2
          · skip
            go_wp2_with fail
            go_quiet (first | (go_at_call 11; exact Calls.quiet_of (HPX.out _)) | (go_at_call 14; exact Calls.quiet_of (HEQ.out _)))
            go_wp2_with fail
            refine Calls.mono (HQ.out _ ⟨_, rfl⟩) ?_
            rintro e w' ⟨rfl, q5, rfl⟩
            go_wp2_with fail
            go_ret
            exact ⟨rfl, below_drewN B3.out _⟩
          · skip
            go_wp2_with fail
            go_quiet (first | (go_at_call 11; exact Calls.quiet_of (HPX.out _)) | (go_at_call 14; exact Calls.quiet_of (HEQ.out _)))
            go_wp2_with fail
            refine Calls.mono (HQ.out _ ⟨_, rfl⟩) ?_
            rintro e w' ⟨rfl, q5, rfl⟩
            go_wp2_with fail
            go_ret
            exact ⟨rfl, below_drewN B3.out _⟩
        · have hne : (((nd : Int) + o.length) == (nd : Int) + a) = false := by simp; omega
          have hne2 : ¬ o.length = a := hoa
          clear HEQ HPX
          cases t2
          · skip
            go_wp2_with fail
            go_quiet (fail)
            go_wp2_with fail
            refine Calls.mono (HQ.out _ ⟨_, rfl⟩) ?_
            rintro e w' ⟨rfl, q5, rfl⟩
            go_wp2_with fail
            go_ret
            exact ⟨rfl, below_drewN B3.out _⟩
          · skip
            go_wp2_with fail
            go_quiet (fail)
            go_wp2_with fail
            refine Calls.mono (HQ.out _ ⟨_, rfl⟩) ?_
            rintro e w' ⟨rfl, q5, rfl⟩
            go_wp2_with fail
            go_ret
            exact ⟨rfl, below_drewN B3.out _⟩

end Go.Proofs.Qxb6604654a

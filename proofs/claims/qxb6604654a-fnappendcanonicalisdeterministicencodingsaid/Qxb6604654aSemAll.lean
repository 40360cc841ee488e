/-
  zzSemEq: the contract, whatever the items.
-/
import Derived.Test.Qxb6604654aSemEq2
import Derived.Test.Qxb6604654aSemMap
namespace Go.Proofs.Qxb6604654a
open Go.RowKit

theorem semC (rep : (α : Type) → List α → List α) (hrep : Rep rep) (b1 o1 n1 c1 : Nat) (l1 : List UInt8) (b2 o2 n2 c2 : Nat) (l2 : List UInt8) (hn1 : n1 ≤ 1099511627776) (hn2 : n2 ≤ 1099511627776) (hc1 : n1 ≤ c1) (hc2 : n2 ≤ c2) (hcc1 : c1 ≤ 9223372036854775807) (hcc2 : c2 ≤ 9223372036854775807) :
    ∀ f, SemC rep f b1 o1 n1 c1 l1 b2 o2 n2 c2 l2
  | 0 => fun w p1 a1 p2 a2 _ _ hi _ => by simp [itemLen] at hi
  | f + 1 => fun w p1 a1 p2 a2 hb1 hb2 hi1 hi2 => by
    have IH : Hid (SemC rep f b1 o1 n1 c1 l1 b2 o2 n2 c2 l2) := semC rep hrep b1 o1 n1 c1 l1 b2 o2 n2 c2 l2 hn1 hn2 hc1 hc2 hcc1 hcc2 f
    have HB1 : Hid (BytesAt w (some ⟨b1, o1, none⟩) n1 l1) := hb1
    have HB2 : Hid (BytesAt w (some ⟨b2, o2, none⟩) n2 l2) := hb2
    have hlen1 := hb1.len
    have hlen2 := hb2.len
    obtain ⟨hok1, hown1, d1, hd1, rfl⟩ := itemLen_succ hi1
    obtain ⟨hok2, hown2, d2, hd2, rfl⟩ := itemLen_succ hi2
    have hle1 := itemLen_le _ _ _ hi1
    have hle2 := itemLen_le _ _ _ hi2
    have hm1 := hmaj_lt (l1.drop p1)
    have hm2 := hmaj_lt (l2.drop p2)
    have hq1 := hl_pos (l1.drop p1)
    have hq2 := hl_pos (l2.drop p2)
    have HR1 : Hid (ReadC b1 o1 n1 c1 p1 (p1 + hl (l1.drop p1)) (hmaj (l1.drop p1)) (hinfo (l1.drop p1)) (harg (l1.drop p1)) w) := readHead_any (some ⟨b1, o1, none⟩) n1 c1 l1 w p1 hb1 hn1 hok1
    have HR2 : Hid (ReadC b2 o2 n2 c2 p2 (p2 + hl (l2.drop p2)) (hmaj (l2.drop p2)) (hinfo (l2.drop p2)) (harg (l2.drop p2)) w) := readHead_any (some ⟨b2, o2, none⟩) n2 c2 l2 w p2 hb2 hn2 hok2
    rw [List.length_drop, hlen1] at hown1 hle1
    rw [List.length_drop, hlen2] at hown2 hle2
    by_cases hmm : hmaj (l1.drop p1) = hmaj (l2.drop p2)
    case neg => exact sem_ne _ b1 o1 n1 c1 b2 o2 n2 c2 w p1 _ _ _ p2 _ _ _ _ _ _ _ HR1 HR2 hmm (nf_ne_maj hmm)
    rw [hmm] at HR1
    have hd : hmaj (l2.drop p2) = 0 ∨ hmaj (l2.drop p2) = 1 ∨ hmaj (l2.drop p2) = 2 ∨ hmaj (l2.drop p2) = 3 ∨ hmaj (l2.drop p2) = 4 ∨ hmaj (l2.drop p2) = 5 ∨ hmaj (l2.drop p2) = 6 ∨ hmaj (l2.drop p2) = 7 := by omega
    by_cases h7 : hmaj (l2.drop p2) = 7
    · have eo1 : own (hmaj (l1.drop p1)) (harg (l1.drop p1)) = 0 := by rw [hmm, h7]; rfl
      have eo2 : own (hmaj (l2.drop p2)) (harg (l2.drop p2)) = 0 := by rw [h7]; rfl
      have e1 : d1 = 0 := by rw [hmm, h7] at hd1; simp [kids, seqLen] at hd1; omega
      have e2 : d2 = 0 := by rw [h7] at hd2; simp [kids, seqLen] at hd2; omega
      subst e1 e2
      rw [eo1, eo2]
      have hiff := nf_iff7 (rep := rep) (f := f) (x := l1.drop p1) (y := l2.drop p2) (hmm.trans h7) h7
      rw [h7] at HR1 HR2
      generalize hl (l1.drop p1) = q1 at *
      generalize hl (l2.drop p2) = q2 at *
      exact sem_7 _ b1 o1 n1 c1 b2 o2 n2 c2 w p1 (p1 + q1) _ _ p2 (p2 + q2) _ _ l1 l2 HB1 HB2 hn1 hn2 hc1 hc2 (by omega) (by omega) (by omega) (by omega) HR1 HR2 (by
        rw [show p1 + q1 - p1 = q1 from by omega, show p2 + q2 - p2 = q2 from by omega]
        exact hiff)
    by_cases hxx : harg (l1.drop p1) = harg (l2.drop p2)
    case neg => exact sem_arg _ b1 o1 n1 c1 b2 o2 n2 c2 w p1 _ _ _ p2 _ _ _ _ _ _ HR1 HR2 h7 hxx (nf_ne_arg (by rw [hmm]; exact h7) h7 hxx)
    have hx2 := harg_lt (l2.drop p2)
    rcases hd with hm | hm | hm | hm | hm | hm | hm | hm
    · have eo1 : own (hmaj (l1.drop p1)) (harg (l1.drop p1)) = 0 := by rw [hmm, hm]; rfl
      have eo2 : own (hmaj (l2.drop p2)) (harg (l2.drop p2)) = 0 := by rw [hm]; rfl
      have e1 : d1 = 0 := by rw [hmm, hm] at hd1; simp [kids, seqLen] at hd1; omega
      have e2 : d2 = 0 := by rw [hm] at hd2; simp [kids, seqLen] at hd2; omega
      subst e1 e2
      rw [eo1, eo2]
      have hy := nf_eq01 (rep := rep) (f := f) (x := l1.drop p1) (y := l2.drop p2) hmm (by omega) hxx
      rw [hm, hxx] at HR1
      rw [hm] at HR2
      exact sem_0 _ b1 o1 n1 c1 b2 o2 n2 c2 w p1 _ _ _ p2 _ _ HR1 HR2 hy
    · have eo1 : own (hmaj (l1.drop p1)) (harg (l1.drop p1)) = 0 := by rw [hmm, hm]; rfl
      have eo2 : own (hmaj (l2.drop p2)) (harg (l2.drop p2)) = 0 := by rw [hm]; rfl
      have e1 : d1 = 0 := by rw [hmm, hm] at hd1; simp [kids, seqLen] at hd1; omega
      have e2 : d2 = 0 := by rw [hm] at hd2; simp [kids, seqLen] at hd2; omega
      subst e1 e2
      rw [eo1, eo2]
      have hy := nf_eq01 (rep := rep) (f := f) (x := l1.drop p1) (y := l2.drop p2) hmm (by omega) hxx
      rw [hm, hxx] at HR1
      rw [hm] at HR2
      exact sem_1 _ b1 o1 n1 c1 b2 o2 n2 c2 w p1 _ _ _ p2 _ _ HR1 HR2 hy
    · have eo1 : own (hmaj (l1.drop p1)) (harg (l1.drop p1)) = harg (l1.drop p1) := by rw [hmm, hm]; rfl
      have eo2 : own (hmaj (l2.drop p2)) (harg (l2.drop p2)) = harg (l2.drop p2) := by rw [hm]; rfl
      have e1 : d1 = 0 := by rw [hmm, hm] at hd1; simp [kids, seqLen] at hd1; omega
      have e2 : d2 = 0 := by rw [hm] at hd2; simp [kids, seqLen] at hd2; omega
      subst e1 e2
      rw [eo1] at hown1
      rw [eo2] at hown2
      rw [eo1, eo2]
      have hiff := nf_iff23 (rep := rep) (f := f) (x := l1.drop p1) (y := l2.drop p2) hmm (by omega) hxx
      rw [hm, hxx] at HR1
      rw [hm] at HR2
      rw [hxx] at hown1 hiff
      rw [hxx]
      rw [List.drop_drop, List.drop_drop] at hiff
      generalize harg (l2.drop p2) = x at *
      generalize hl (l1.drop p1) = q1 at *
      generalize hl (l2.drop p2) = q2 at *
      have g1 : p1 + (q1 + x + 0) = p1 + q1 + x := by omega
      have g2 : p2 + (q2 + x + 0) = p2 + q2 + x := by omega
      rw [g1, g2]
      by_cases hx0 : x = 0
      · subst hx0
        exact sem_2e _ b1 o1 n1 c1 b2 o2 n2 c2 w p1 (p1 + q1) _ p2 (p2 + q2) _ (by omega) (by omega) hcc1 hcc2 HR1 HR2 (hiff.2 rfl)
      · exact sem_2 _ b1 o1 n1 c1 b2 o2 n2 c2 w p1 (p1 + q1) _ p2 (p2 + q2) _ x l1 l2 HB1 HB2 hn1 hn2 hc1 hc2 (by omega) (by omega) (by omega) HR1 HR2 hiff
    · have eo1 : own (hmaj (l1.drop p1)) (harg (l1.drop p1)) = harg (l1.drop p1) := by rw [hmm, hm]; rfl
      have eo2 : own (hmaj (l2.drop p2)) (harg (l2.drop p2)) = harg (l2.drop p2) := by rw [hm]; rfl
      have e1 : d1 = 0 := by rw [hmm, hm] at hd1; simp [kids, seqLen] at hd1; omega
      have e2 : d2 = 0 := by rw [hm] at hd2; simp [kids, seqLen] at hd2; omega
      subst e1 e2
      rw [eo1] at hown1
      rw [eo2] at hown2
      rw [eo1, eo2]
      have hiff := nf_iff23 (rep := rep) (f := f) (x := l1.drop p1) (y := l2.drop p2) hmm (by omega) hxx
      rw [hm, hxx] at HR1
      rw [hm] at HR2
      rw [hxx] at hown1 hiff
      rw [hxx]
      rw [List.drop_drop, List.drop_drop] at hiff
      generalize harg (l2.drop p2) = x at *
      generalize hl (l1.drop p1) = q1 at *
      generalize hl (l2.drop p2) = q2 at *
      have g1 : p1 + (q1 + x + 0) = p1 + q1 + x := by omega
      have g2 : p2 + (q2 + x + 0) = p2 + q2 + x := by omega
      rw [g1, g2]
      by_cases hx0 : x = 0
      · subst hx0
        exact sem_3e _ b1 o1 n1 c1 b2 o2 n2 c2 w p1 (p1 + q1) _ p2 (p2 + q2) _ (by omega) (by omega) hcc1 hcc2 HR1 HR2 (hiff.2 rfl)
      · exact sem_3 _ b1 o1 n1 c1 b2 o2 n2 c2 w p1 (p1 + q1) _ p2 (p2 + q2) _ x l1 l2 HB1 HB2 hn1 hn2 hc1 hc2 (by omega) (by omega) (by omega) HR1 HR2 hiff
    · have eo1 : own (hmaj (l1.drop p1)) (harg (l1.drop p1)) = 0 := by rw [hmm, hm]; rfl
      have eo2 : own (hmaj (l2.drop p2)) (harg (l2.drop p2)) = 0 := by rw [hm]; rfl
      have ek1 : kids (hmaj (l1.drop p1)) (harg (l1.drop p1)) = harg (l1.drop p1) := by rw [hmm, hm]; rfl
      have ek2 : kids (hmaj (l2.drop p2)) (harg (l2.drop p2)) = harg (l2.drop p2) := by rw [hm]; rfl
      rw [ek1] at hd1
      rw [ek2] at hd2
      rw [eo1] at hle1
      rw [eo2] at hle2
      rw [eo1, eo2]
      rw [List.drop_drop] at hd1 hd2
      have hiff := nf_iff4 (rep := rep) (f := f) (x := l1.drop p1) (y := l2.drop p2) (hmm.trans hm) hm hxx
      rw [hm, hxx] at HR1
      rw [hm] at HR2
      rw [hxx] at hd1 hiff
      rw [List.drop_drop, List.drop_drop] at hiff
      have g1 : p1 + (hl (l1.drop p1) + 0 + d1) = p1 + hl (l1.drop p1) + d1 := by omega
      have g2 : p2 + (hl (l2.drop p2) + 0 + d2) = p2 + hl (l2.drop p2) + d2 := by omega
      rw [g1, g2]
      exact sem_4 rep f _ b1 o1 n1 c1 b2 o2 n2 c2 w p1 _ _ p2 _ _ _ l1 l2 IH HB1 HB2 d1 d2 hn1 hn2 (by omega) (by omega) HR1 HR2 hd1 hd2 hiff
    · have eo1 : own (hmaj (l1.drop p1)) (harg (l1.drop p1)) = 0 := by rw [hmm, hm]; rfl
      have eo2 : own (hmaj (l2.drop p2)) (harg (l2.drop p2)) = 0 := by rw [hm]; rfl
      have ek1 : kids (hmaj (l1.drop p1)) (harg (l1.drop p1)) = 2 * harg (l1.drop p1) := by rw [hmm, hm]; rfl
      have ek2 : kids (hmaj (l2.drop p2)) (harg (l2.drop p2)) = 2 * harg (l2.drop p2) := by rw [hm]; rfl
      rw [ek1] at hd1
      rw [ek2] at hd2
      rw [eo1] at hle1
      rw [eo2] at hle2
      rw [eo1, eo2]
      rw [List.drop_drop] at hd1 hd2
      have hiff := nf_iff5 (rep := rep) (f := f) (x := l1.drop p1) (y := l2.drop p2) hrep (hmm.trans hm) hm hxx
      rw [hm, hxx] at HR1
      rw [hm] at HR2
      rw [hxx] at hd1 hiff
      rw [List.drop_drop, List.drop_drop] at hiff
      have g1 : p1 + (hl (l1.drop p1) + 0 + d1) = p1 + hl (l1.drop p1) + d1 := by omega
      have g2 : p2 + (hl (l2.drop p2) + 0 + d2) = p2 + hl (l2.drop p2) + d2 := by omega
      rw [g1, g2]
      exact sem_5 rep f _ b1 o1 n1 c1 b2 o2 n2 c2 w p1 _ _ p2 _ _ _ l1 l2 IH HB1 HB2 d1 d2 hn1 hn2 (by omega) (by omega) HR1 HR2 hd1 hd2 hiff
    · have eo1 : own (hmaj (l1.drop p1)) (harg (l1.drop p1)) = 0 := by rw [hmm, hm]; rfl
      have eo2 : own (hmaj (l2.drop p2)) (harg (l2.drop p2)) = 0 := by rw [hm]; rfl
      have ek1 : kids (hmaj (l1.drop p1)) (harg (l1.drop p1)) = 1 := by rw [hmm, hm]; rfl
      have ek2 : kids (hmaj (l2.drop p2)) (harg (l2.drop p2)) = 1 := by rw [hm]; rfl
      rw [ek1] at hd1
      rw [ek2] at hd2
      rw [eo1] at hle1
      rw [eo2] at hle2
      rw [eo1, eo2]
      rw [List.drop_drop] at hd1 hd2
      have hiff := nf_iff6 (rep := rep) (f := f) (x := l1.drop p1) (y := l2.drop p2) (hmm.trans hm) hm hxx
      rw [hm, hxx] at HR1
      rw [hm] at HR2
      rw [List.drop_drop, List.drop_drop] at hiff
      obtain ⟨a1, z1, ha1, hz1, rfl⟩ := seqLen_succ hd1
      obtain ⟨a2, z2, ha2, hz2, rfl⟩ := seqLen_succ hd2
      simp [seqLen] at hz1 hz2
      subst hz1 hz2
      have g1 : p1 + (hl (l1.drop p1) + 0 + (a1 + 0)) = p1 + hl (l1.drop p1) + a1 := by omega
      have g2 : p2 + (hl (l2.drop p2) + 0 + (a2 + 0)) = p2 + hl (l2.drop p2) + a2 := by omega
      rw [g1, g2]
      have HC := IH.out w _ a1 _ a2 HB1.out HB2.out ha1 ha2
      rw [← hiff] at HC
      exact sem_6 _ b1 o1 n1 c1 b2 o2 n2 c2 w p1 _ _ p2 _ _ _ HR1 HR2 _ _ HC
    · exact absurd hm h7

end Go.Proofs.Qxb6604654a

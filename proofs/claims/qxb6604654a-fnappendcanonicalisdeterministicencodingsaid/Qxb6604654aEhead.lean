/-
  Plain: the shortest head of a major type and an argument.
-/
import Derived.Test.Qxb6604654aWf
namespace Go.Proofs.Qxb6604654a

def be2 (x : Nat) : List UInt8 := [UInt8.ofNat (x / 256), UInt8.ofNat x]
def be4 (x : Nat) : List UInt8 := [UInt8.ofNat (x / 16777216), UInt8.ofNat (x / 65536), UInt8.ofNat (x / 256), UInt8.ofNat x]
def be8 (x : Nat) : List UInt8 := [UInt8.ofNat (x / 72057594037927936), UInt8.ofNat (x / 281474976710656), UInt8.ofNat (x / 1099511627776), UInt8.ofNat (x / 4294967296), UInt8.ofNat (x / 16777216), UInt8.ofNat (x / 65536), UInt8.ofNat (x / 256), UInt8.ofNat x]

/-- The shortest head. -/
def ehead (m x : Nat) : List UInt8 :=
  if x < 24 then [UInt8.ofNat (m * 32 + x)]
  else if x < 256 then [UInt8.ofNat (m * 32 + 24), UInt8.ofNat x]
  else if x < 65536 then [UInt8.ofNat (m * 32 + 25)] ++ be2 x
  else if x < 4294967296 then [UInt8.ofNat (m * 32 + 26)] ++ be4 x
  else [UInt8.ofNat (m * 32 + 27)] ++ be8 x

/-- Is a head of these low five bits and this argument the shortest? (zzMinimal's answer.) -/
def minimal (i x : Nat) : Bool := if i = 24 then decide (24 ≤ x) else if i = 25 then decide (255 < x) else if i = 26 then decide (65535 < x) else if i = 27 then decide (4294967295 < x) else true

theorem toNat_ofNat8 (x : Nat) : (UInt8.ofNat x).toNat = x % 256 := UInt8.toNat_ofNat'
theorem nb_cons_zero (b : UInt8) (l : List UInt8) : nb (b :: l) 0 = b.toNat := rfl
theorem nb_cons_succ (b : UInt8) (l : List UInt8) (k : Nat) : nb (b :: l) (k + 1) = nb l k := rfl

/-- What the shortest head reads as. -/
theorem ehead_reads (m x : Nat) (r : List UInt8) (hm : m < 8) (hx : x < 18446744073709551616) :
    hmaj (ehead m x ++ r) = m ∧ hl (ehead m x ++ r) = (ehead m x).length ∧ harg (ehead m x ++ r) = x ∧ headOk (ehead m x ++ r) = true ∧ minimal (hinfo (ehead m x ++ r)) x = true := by
  have hd : x < 24 ∨ (24 ≤ x ∧ x < 256) ∨ (256 ≤ x ∧ x < 65536) ∨ (65536 ≤ x ∧ x < 4294967296) ∨ 4294967296 ≤ x := by omega
  rcases hd with h | h | h | h | h
  · have ee : ehead m x = [UInt8.ofNat (m * 32 + x)] := by unfold ehead; rw [if_pos h]
    rw [ee]
    have e0 : nb ([UInt8.ofNat (m * 32 + x)] ++ r) 0 = m * 32 + x := by rw [List.cons_append, nb_cons_zero, toNat_ofNat8]; omega
    have e1 : hinfo ([UInt8.ofNat (m * 32 + x)] ++ r) = x := by unfold hinfo; rw [e0]; omega
    have e2 : hl ([UInt8.ofNat (m * 32 + x)] ++ r) = 1 := by unfold hl wide; rw [e1, if_pos h]
    refine ⟨by unfold hmaj; rw [e0]; omega, e2, by unfold harg; rw [e1, if_pos h], ?_, ?_⟩
    · rw [headOk_iff, e1, e2]
      simp
      omega
    · rw [e1]
      unfold minimal
      rw [if_neg (by omega), if_neg (by omega), if_neg (by omega), if_neg (by omega)]
  · have ee : ehead m x = [UInt8.ofNat (m * 32 + 24), UInt8.ofNat x] := by unfold ehead; rw [if_neg (by omega), if_pos (by omega)]
    rw [ee]
    have e0 : nb ([UInt8.ofNat (m * 32 + 24), UInt8.ofNat x] ++ r) 0 = m * 32 + 24 := by rw [List.cons_append, nb_cons_zero, toNat_ofNat8]; omega
    have e1 : hinfo ([UInt8.ofNat (m * 32 + 24), UInt8.ofNat x] ++ r) = 24 := by unfold hinfo; rw [e0]; omega
    have e2 : hl ([UInt8.ofNat (m * 32 + 24), UInt8.ofNat x] ++ r) = 2 := by unfold hl wide; rw [e1]; rfl
    refine ⟨by unfold hmaj; rw [e0]; omega, e2, ?_, ?_, ?_⟩
    · unfold harg wide
      rw [e1]
      simp [be, nb_cons_succ, nb_cons_zero]
      omega
    · rw [headOk_iff, e1, e2]
      simp
    · rw [e1]
      simp [minimal]
      omega
  · have ee : ehead m x = ([UInt8.ofNat (m * 32 + 25)] ++ be2 x) := by unfold ehead; rw [if_neg (by omega), if_neg (by omega), if_pos (by omega)]
    rw [ee]
    have e0 : nb (([UInt8.ofNat (m * 32 + 25)] ++ be2 x) ++ r) 0 = m * 32 + 25 := by rw [List.append_assoc, List.cons_append, nb_cons_zero, toNat_ofNat8]; omega
    have e1 : hinfo (([UInt8.ofNat (m * 32 + 25)] ++ be2 x) ++ r) = 25 := by unfold hinfo; rw [e0]; omega
    have e2 : hl (([UInt8.ofNat (m * 32 + 25)] ++ be2 x) ++ r) = 3 := by unfold hl wide; rw [e1]; rfl
    refine ⟨by unfold hmaj; rw [e0]; omega, e2, ?_, ?_, ?_⟩
    · unfold harg wide
      rw [e1]
      simp [be, be2, nb_cons_succ, nb_cons_zero]
      omega
    · rw [headOk_iff, e1, e2]
      simp [be2]
    · rw [e1]
      simp [minimal]
      omega
  · have ee : ehead m x = ([UInt8.ofNat (m * 32 + 26)] ++ be4 x) := by unfold ehead; rw [if_neg (by omega), if_neg (by omega), if_neg (by omega), if_pos (by omega)]
    rw [ee]
    have e0 : nb (([UInt8.ofNat (m * 32 + 26)] ++ be4 x) ++ r) 0 = m * 32 + 26 := by rw [List.append_assoc, List.cons_append, nb_cons_zero, toNat_ofNat8]; omega
    have e1 : hinfo (([UInt8.ofNat (m * 32 + 26)] ++ be4 x) ++ r) = 26 := by unfold hinfo; rw [e0]; omega
    have e2 : hl (([UInt8.ofNat (m * 32 + 26)] ++ be4 x) ++ r) = 5 := by unfold hl wide; rw [e1]; rfl
    refine ⟨by unfold hmaj; rw [e0]; omega, e2, ?_, ?_, ?_⟩
    · unfold harg wide
      rw [e1]
      simp [be, be4, nb_cons_succ, nb_cons_zero]
      omega
    · rw [headOk_iff, e1, e2]
      simp [be4]
    · rw [e1]
      simp [minimal]
      omega
  · have ee : ehead m x = ([UInt8.ofNat (m * 32 + 27)] ++ be8 x) := by unfold ehead; rw [if_neg (by omega), if_neg (by omega), if_neg (by omega), if_neg (by omega)]
    rw [ee]
    have e0 : nb (([UInt8.ofNat (m * 32 + 27)] ++ be8 x) ++ r) 0 = m * 32 + 27 := by rw [List.append_assoc, List.cons_append, nb_cons_zero, toNat_ofNat8]; omega
    have e1 : hinfo (([UInt8.ofNat (m * 32 + 27)] ++ be8 x) ++ r) = 27 := by unfold hinfo; rw [e0]; omega
    have e2 : hl (([UInt8.ofNat (m * 32 + 27)] ++ be8 x) ++ r) = 9 := by unfold hl wide; rw [e1]; rfl
    refine ⟨by unfold hmaj; rw [e0]; omega, e2, ?_, ?_, ?_⟩
    · unfold harg wide
      rw [e1]
      simp [be, be8, nb_cons_succ, nb_cons_zero]
      omega
    · rw [headOk_iff, e1, e2]
      simp [be8]
    · rw [e1]
      simp [minimal]
      omega

theorem u8_eq {n : Nat} {b : UInt8} (h : n % 256 = b.toNat) : UInt8.ofNat n = b := UInt8.toNat_inj.1 (by rw [toNat_ofNat8, h])
theorem uncons {l : List UInt8} {k : Nat} (h : k + 1 ≤ l.length) : ∃ b t, l = b :: t ∧ k ≤ t.length := by
  cases l with
  | nil => simp at h
  | cons b t => exact ⟨b, t, rfl, by simpa using h⟩

/-- A minimal head is the shortest head of its own major type and argument. -/
theorem ehead_of_minimal (l : List UInt8) (hok : headOk l = true) (hm : minimal (hinfo l) (harg l) = true) : ehead (hmaj l) (harg l) = l.take (hl l) := by
  rw [headOk_iff] at hok
  obtain ⟨h27, hle⟩ := hok
  by_cases hs : hinfo l < 24
  · have e1 : hl l = 1 := by unfold hl wide; rw [if_pos hs]
    have e2 : harg l = hinfo l := by unfold harg; rw [if_pos hs]
    rw [e1, e2]
    rw [e1] at hle
    obtain ⟨b0, t0, rfl, _⟩ := uncons (k := 0) hle
    unfold ehead
    rw [if_pos hs, List.take_succ_cons, List.take_zero]
    congr 1
    apply u8_eq
    have := b0.toNat_lt
    unfold hmaj hinfo
    rw [nb_cons_zero]
    omega
  have hs' : hinfo l = 24 ∨ hinfo l = 25 ∨ hinfo l = 26 ∨ hinfo l = 27 := by omega
  rcases hs' with hs' | hs' | hs' | hs'
  · have e1 : hl l = 2 := by unfold hl wide; rw [hs']; rfl
    have e2 : harg l = be l 1 1 := by unfold harg wide; rw [hs']; rfl
    have hm2 : 24 ≤ harg l := by unfold minimal at hm; rw [hs'] at hm; simpa using hm
    rw [e2] at hm2
    rw [e1, e2]
    rw [e1] at hle
    clear e1 e2 hm
    obtain ⟨b0, t0, rfl, k0⟩ := uncons (k := 1) hle
    obtain ⟨b1, t1, rfl, k1⟩ := uncons (k := 0) k0
    have := b0.toNat_lt
    have := b1.toNat_lt
    unfold hinfo at hs'
    unfold hmaj
    simp only [be, nb_cons_succ, nb_cons_zero, Nat.zero_add, Nat.reduceAdd, Nat.zero_mul] at hs' hm2 ⊢
    unfold ehead
    rw [if_neg (by omega), if_pos (by omega)]
    simp only [List.take_succ_cons, List.take_zero, List.cons.injEq, and_true]
    exact ⟨u8_eq (by omega), u8_eq (by omega)⟩
  · have e1 : hl l = 3 := by unfold hl wide; rw [hs']; rfl
    have e2 : harg l = be l 1 2 := by unfold harg wide; rw [hs']; rfl
    have hm2 : 255 < harg l := by unfold minimal at hm; rw [hs'] at hm; simpa using hm
    rw [e2] at hm2
    rw [e1, e2]
    rw [e1] at hle
    clear e1 e2 hm
    obtain ⟨b0, t0, rfl, k0⟩ := uncons (k := 2) hle
    obtain ⟨b1, t1, rfl, k1⟩ := uncons (k := 1) k0
    obtain ⟨b2, t2, rfl, k2⟩ := uncons (k := 0) k1
    have := b0.toNat_lt
    have := b1.toNat_lt
    have := b2.toNat_lt
    unfold hinfo at hs'
    unfold hmaj
    simp only [be, nb_cons_succ, nb_cons_zero, Nat.zero_add, Nat.reduceAdd, Nat.zero_mul] at hs' hm2 ⊢
    unfold ehead
    rw [if_neg (by omega), if_neg (by omega), if_pos (by omega)]
    simp only [be2, List.cons_append, List.nil_append, List.take_succ_cons, List.take_zero, List.cons.injEq, and_true]
    exact ⟨u8_eq (by omega), u8_eq (by omega), u8_eq (by omega)⟩
  · have e1 : hl l = 5 := by unfold hl wide; rw [hs']; rfl
    have e2 : harg l = be l 1 4 := by unfold harg wide; rw [hs']; rfl
    have hm2 : 65535 < harg l := by unfold minimal at hm; rw [hs'] at hm; simpa using hm
    rw [e2] at hm2
    rw [e1, e2]
    rw [e1] at hle
    clear e1 e2 hm
    obtain ⟨b0, t0, rfl, k0⟩ := uncons (k := 4) hle
    obtain ⟨b1, t1, rfl, k1⟩ := uncons (k := 3) k0
    obtain ⟨b2, t2, rfl, k2⟩ := uncons (k := 2) k1
    obtain ⟨b3, t3, rfl, k3⟩ := uncons (k := 1) k2
    obtain ⟨b4, t4, rfl, k4⟩ := uncons (k := 0) k3
    have := b0.toNat_lt
    have := b1.toNat_lt
    have := b2.toNat_lt
    have := b3.toNat_lt
    have := b4.toNat_lt
    unfold hinfo at hs'
    unfold hmaj
    simp only [be, nb_cons_succ, nb_cons_zero, Nat.zero_add, Nat.reduceAdd, Nat.zero_mul] at hs' hm2 ⊢
    unfold ehead
    rw [if_neg (by omega), if_neg (by omega), if_neg (by omega), if_pos (by omega)]
    simp only [be4, List.cons_append, List.nil_append, List.take_succ_cons, List.take_zero, List.cons.injEq, and_true]
    exact ⟨u8_eq (by omega), u8_eq (by omega), u8_eq (by omega), u8_eq (by omega), u8_eq (by omega)⟩
  · have e1 : hl l = 9 := by unfold hl wide; rw [hs']; rfl
    have e2 : harg l = be l 1 8 := by unfold harg wide; rw [hs']; rfl
    have hm2 : 4294967295 < harg l := by unfold minimal at hm; rw [hs'] at hm; simpa using hm
    rw [e2] at hm2
    rw [e1, e2]
    rw [e1] at hle
    clear e1 e2 hm
    obtain ⟨b0, t0, rfl, k0⟩ := uncons (k := 8) hle
    obtain ⟨b1, t1, rfl, k1⟩ := uncons (k := 7) k0
    obtain ⟨b2, t2, rfl, k2⟩ := uncons (k := 6) k1
    obtain ⟨b3, t3, rfl, k3⟩ := uncons (k := 5) k2
    obtain ⟨b4, t4, rfl, k4⟩ := uncons (k := 4) k3
    obtain ⟨b5, t5, rfl, k5⟩ := uncons (k := 3) k4
    obtain ⟨b6, t6, rfl, k6⟩ := uncons (k := 2) k5
    obtain ⟨b7, t7, rfl, k7⟩ := uncons (k := 1) k6
    obtain ⟨b8, t8, rfl, k8⟩ := uncons (k := 0) k7
    have := b0.toNat_lt
    have := b1.toNat_lt
    have := b2.toNat_lt
    have := b3.toNat_lt
    have := b4.toNat_lt
    have := b5.toNat_lt
    have := b6.toNat_lt
    have := b7.toNat_lt
    have := b8.toNat_lt
    unfold hinfo at hs'
    unfold hmaj
    simp only [be, nb_cons_succ, nb_cons_zero, Nat.zero_add, Nat.reduceAdd, Nat.zero_mul] at hs' hm2 ⊢
    unfold ehead
    rw [if_neg (by omega), if_neg (by omega), if_neg (by omega), if_neg (by omega)]
    simp only [be8, List.cons_append, List.nil_append, List.take_succ_cons, List.take_zero, List.cons.injEq, and_true]
    exact ⟨u8_eq (by omega), u8_eq (by omega), u8_eq (by omega), u8_eq (by omega), u8_eq (by omega), u8_eq (by omega), u8_eq (by omega), u8_eq (by omega), u8_eq (by omega)⟩

theorem ehead_len (m x : Nat) : 1 ≤ (ehead m x).length ∧ (ehead m x).length ≤ 9 := by
  unfold ehead
  (repeat' split) <;> simp [be2, be4, be8]

end Go.Proofs.Qxb6604654a

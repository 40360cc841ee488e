/-
  zzCanonAt: the contract, whatever the item.
-/
import Derived.Test.Qxb6604654aCanonAtMap
namespace Go.Proofs.Qxb6604654a
open Go.RowKit

theorem Canon_no {s : Bool} {f : Nat} {l : List UInt8} (h7 : hmaj l ≠ 7) (hm : minimal (hinfo l) (harg l) = false) : ¬ Canon s (f + 1) l := by
  rintro ⟨h, _⟩
  rcases h with h | h
  · exact h7 h
  · rw [hm] at h
    simp at h
theorem Canon_yes {s : Bool} {f : Nat} {l : List UInt8} (h : hmaj l = 7 ∨ minimal (hinfo l) (harg l) = true) (h4 : hmaj l ≠ 4) (h5 : hmaj l ≠ 5) (h6 : hmaj l ≠ 6) : Canon s (f + 1) l := ⟨h, fun e => absurd e h4, fun e => absurd e h5, fun e => absurd e h6⟩
theorem Canon_iff4 {s : Bool} {f : Nat} {l : List UInt8} (hm : minimal (hinfo l) (harg l) = true) (h4 : hmaj l = 4) : Canon s (f + 1) l ↔ SeqCanon (Canon s f) (itemLen f) (harg l) (l.drop (hl l)) :=
  ⟨fun h => h.2.1 h4, fun h => ⟨.inr hm, fun _ => h, fun e => absurd e (by omega), fun e => absurd e (by omega)⟩⟩
theorem Canon_iff5 {s : Bool} {f : Nat} {l : List UInt8} (hm : minimal (hinfo l) (harg l) = true) (h5 : hmaj l = 5) : Canon s (f + 1) l ↔ MapCanon s (Canon s f) (itemLen f) (harg l) none (l.drop (hl l)) :=
  ⟨fun h => h.2.2.1 h5, fun h => ⟨.inr hm, fun e => absurd e (by omega), fun _ => h, fun e => absurd e (by omega)⟩⟩
theorem Canon_iff6 {s : Bool} {f : Nat} {l : List UInt8} (hm : minimal (hinfo l) (harg l) = true) (h6 : hmaj l = 6) : Canon s (f + 1) l ↔ Canon s f (l.drop (hl l)) :=
  ⟨fun h => h.2.2.2 h6, fun h => ⟨.inr hm, fun e => absurd e (by omega), fun e => absurd e (by omega), fun _ => h⟩⟩

theorem canAt (s : Bool) (b off n cap : Nat) (l : List UInt8) (hn : n ≤ 1099511627776) (hcap : n ≤ cap) (hcap2 : cap ≤ 9223372036854775807) : ∀ f, CanAtC s f b off n cap l
  | 0 => fun w pos a _ hi => by simp [itemLen] at hi
  | f + 1 => fun w pos a hb hi => by
    have IH : Hid (CanAtC s f b off n cap l) := canAt s b off n cap l hn hcap hcap2 f
    have hlen := hb.len
    obtain ⟨hok, hown, c, hc, rfl⟩ := itemLen_succ hi
    have hle := itemLen_le _ _ _ hi
    have hx := harg_lt (l.drop pos)
    have hm8 := hmaj_lt (l.drop pos)
    have hq1 := hl_pos (l.drop pos)
    have hi32 : hinfo (l.drop pos) < 32 := by unfold hinfo; omega
    have hrd := readHead_any (some ⟨b, off, none⟩) n cap l w pos hb hn hok
    rw [List.length_drop, hlen] at hown hle
    rw [List.drop_drop] at hc
    have hd : hmaj (l.drop pos) = 0 ∨ hmaj (l.drop pos) = 1 ∨ hmaj (l.drop pos) = 2 ∨ hmaj (l.drop pos) = 3 ∨ hmaj (l.drop pos) = 4 ∨ hmaj (l.drop pos) = 5 ∨ hmaj (l.drop pos) = 6 ∨ hmaj (l.drop pos) = 7 := by omega
    cases hmin : minimal (hinfo (l.drop pos)) (harg (l.drop pos)) with
    | false =>
      rcases hd with hm | hm | hm | hm | hm | hm | hm | hm
      · rw [hm] at hrd
        exact canat_no0 s f b off n cap l w pos _ _ _ hn hx hi32 (by omega) hrd hmin _ (Canon_no (by omega) hmin)
      · rw [hm] at hrd
        exact canat_no1 s f b off n cap l w pos _ _ _ hn hx hi32 (by omega) hrd hmin _ (Canon_no (by omega) hmin)
      · rw [hm] at hrd
        exact canat_no2 s f b off n cap l w pos _ _ _ hn hx hi32 (by omega) hrd hmin _ (Canon_no (by omega) hmin)
      · rw [hm] at hrd
        exact canat_no3 s f b off n cap l w pos _ _ _ hn hx hi32 (by omega) hrd hmin _ (Canon_no (by omega) hmin)
      · rw [hm] at hrd
        exact canat_no4 s f b off n cap l w pos _ _ _ hn hx hi32 (by omega) hrd hmin _ (Canon_no (by omega) hmin)
      · rw [hm] at hrd
        exact canat_no5 s f b off n cap l w pos _ _ _ hn hx hi32 (by omega) hrd hmin _ (Canon_no (by omega) hmin)
      · rw [hm] at hrd
        exact canat_no6 s f b off n cap l w pos _ _ _ hn hx hi32 (by omega) hrd hmin _ (Canon_no (by omega) hmin)
      · have e0 : c = 0 := by rw [hm] at hc; simp [kids, seqLen] at hc; omega
        have eo : own (hmaj (l.drop pos)) (harg (l.drop pos)) = 0 := by rw [hm]; rfl
        subst e0
        rw [eo]
        rw [hm] at hrd
        exact canat_yes7 s f b off n cap l w pos _ _ _ hn hx hi32 (by omega) hrd (Canon_yes (.inl hm) (by omega) (by omega) (by omega))
    | true =>
      rcases hd with hm | hm | hm | hm | hm | hm | hm | hm
      · have e0 : c = 0 := by rw [hm] at hc; simp [kids, seqLen] at hc; omega
        have eo : own (hmaj (l.drop pos)) (harg (l.drop pos)) = 0 := by rw [hm]; rfl
        subst e0
        rw [eo]
        rw [hm] at hrd
        exact canat_yes0 s f b off n cap l w pos _ _ _ hn hx hi32 (by omega) hrd hmin (Canon_yes (.inr hmin) (by omega) (by omega) (by omega))
      · have e0 : c = 0 := by rw [hm] at hc; simp [kids, seqLen] at hc; omega
        have eo : own (hmaj (l.drop pos)) (harg (l.drop pos)) = 0 := by rw [hm]; rfl
        subst e0
        rw [eo]
        rw [hm] at hrd
        exact canat_yes1 s f b off n cap l w pos _ _ _ hn hx hi32 (by omega) hrd hmin (Canon_yes (.inr hmin) (by omega) (by omega) (by omega))
      · have e0 : c = 0 := by rw [hm] at hc; simp [kids, seqLen] at hc; omega
        have eo : own (hmaj (l.drop pos)) (harg (l.drop pos)) = harg (l.drop pos) := by rw [hm]; rfl
        subst e0
        rw [eo] at hown hle ⊢
        rw [hm] at hrd
        exact canat_yes2 s f b off n cap l w pos (hl (l.drop pos)) (harg (l.drop pos)) _ hn hx hi32 (by omega) hrd hmin (Canon_yes (.inr hmin) (by omega) (by omega) (by omega))
      · have e0 : c = 0 := by rw [hm] at hc; simp [kids, seqLen] at hc; omega
        have eo : own (hmaj (l.drop pos)) (harg (l.drop pos)) = harg (l.drop pos) := by rw [hm]; rfl
        subst e0
        rw [eo] at hown hle ⊢
        rw [hm] at hrd
        exact canat_yes3 s f b off n cap l w pos (hl (l.drop pos)) (harg (l.drop pos)) _ hn hx hi32 (by omega) hrd hmin (Canon_yes (.inr hmin) (by omega) (by omega) (by omega))
      · have eo : own (hmaj (l.drop pos)) (harg (l.drop pos)) = 0 := by rw [hm]; rfl
        have ek : kids (hmaj (l.drop pos)) (harg (l.drop pos)) = harg (l.drop pos) := by rw [hm]; rfl
        rw [eo] at hown hle ⊢
        rw [ek] at hc
        rw [hm] at hrd
        have hiff := Canon_iff4 (s := s) (f := f) hmin hm
        rw [List.drop_drop] at hiff
        exact canat_4 s f b off n cap l IH w hb pos _ _ _ c hn hx hi32 (by omega) hrd hmin hc hiff
      · have eo : own (hmaj (l.drop pos)) (harg (l.drop pos)) = 0 := by rw [hm]; rfl
        have ek : kids (hmaj (l.drop pos)) (harg (l.drop pos)) = 2 * harg (l.drop pos) := by rw [hm]; rfl
        rw [eo] at hown hle ⊢
        rw [ek] at hc
        rw [hm] at hrd
        have hiff := Canon_iff5 (s := s) (f := f) hmin hm
        rw [List.drop_drop] at hiff
        exact canat_5 s f b off n cap l IH w hb pos _ _ _ c hn hcap hcap2 hx hi32 (by omega) hrd hmin hc hiff
      · have eo : own (hmaj (l.drop pos)) (harg (l.drop pos)) = 0 := by rw [hm]; rfl
        have ek : kids (hmaj (l.drop pos)) (harg (l.drop pos)) = 1 := by rw [hm]; rfl
        rw [eo] at hown hle ⊢
        rw [ek] at hc
        rw [hm] at hrd
        have hiff := Canon_iff6 (s := s) (f := f) hmin hm
        rw [List.drop_drop] at hiff
        obtain ⟨a1, d1, ha1, hd1, rfl⟩ := seqLen_succ hc
        simp [seqLen] at hd1
        subst hd1
        exact canat_6 s f b off n cap l IH w hb pos _ _ _ a1 hn hx hi32 (by omega) hrd hmin ha1 hiff
      · have e0 : c = 0 := by rw [hm] at hc; simp [kids, seqLen] at hc; omega
        have eo : own (hmaj (l.drop pos)) (harg (l.drop pos)) = 0 := by rw [hm]; rfl
        subst e0
        rw [eo]
        rw [hm] at hrd
        exact canat_yes7 s f b off n cap l w pos _ _ _ hn hx hi32 (by omega) hrd (Canon_yes (.inl hm) (by omega) (by omega) (by omega))

end Go.Proofs.Qxb6604654a

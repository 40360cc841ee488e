/-
  appendCanonical: the contract, whatever the item.
-/
import Derived.Test.Qxb6604654aCanon
namespace Go.Proofs.Qxb6604654a
open Go.RowKit

theorem canonC : ∀ f, CanonC f
  | 0 => fun w v dl b off n cap l a _ _ _ _ _ _ hi => by simp [itemLen] at hi
  | f + 1 => fun w v dl b off n cap l a hv hb hne hcap hcap2 hdl hi => by
    have IH : Hid (CanonC f) := canonC f
    have hlen := hb.len
    obtain ⟨hok, hown, c, hc, rfl⟩ := itemLen_succ hi
    have hle := itemLen_le _ _ _ hi
    have hx := harg_lt l
    have hq1 := hl_pos l
    have hm8 := hmaj_lt l
    have heh := ehead_len_le l hok
    have hqn : hl l ≤ n := by rw [headOk_iff, hlen] at hok; exact hok.2
    obtain ⟨o1, ho1⟩ := cutAt_at b off cap (hl l)
    have hr := hb.cut hcap (hl l) hqn
    rw [ho1] at hr
    have hh := head_any (some ⟨b, off, none⟩) n cap l w hb hcap hok
    rw [ho1] at hh
    rw [hlen] at hown hle
    obtain ⟨m, hm⟩ : ∃ m, hmaj l = m := ⟨_, rfl⟩
    rw [hm] at hown hle hc heh hh hm8 ⊢
    have hd : m = 0 ∨ m = 1 ∨ m = 2 ∨ m = 3 ∨ m = 4 ∨ m = 5 ∨ m = 6 ∨ m = 7 := by omega
    rcases hd with rfl | rfl | rfl | rfl | rfl | rfl | rfl | rfl
    · have e0 : c = 0 := by simp [kids, seqLen] at hc; omega
      subst e0
      exact canon_0 f w v dl b off n cap l _ _ hv hb hne hcap hcap2 hdl hx hqn hm rfl rfl hq1 heh o1 hr hh
    · have e0 : c = 0 := by simp [kids, seqLen] at hc; omega
      subst e0
      exact canon_1 f w v dl b off n cap l _ _ hv hb hne hcap hcap2 hdl hx hqn hm rfl rfl hq1 heh o1 hr hh
    · have e0 : c = 0 := by simp [kids, seqLen] at hc; omega
      subst e0
      exact canon_2 f w v dl b off n cap l (hl l) (harg l) hv hb hne hcap hcap2 hdl hx hown hm rfl rfl hq1 heh o1 hr hh
    · have e0 : c = 0 := by simp [kids, seqLen] at hc; omega
      subst e0
      exact canon_3 f w v dl b off n cap l (hl l) (harg l) hv hb hne hcap hcap2 hdl hx hown hm rfl rfl hq1 heh o1 hr hh
    · have eo : own 4 (harg l) = 0 := rfl
      have ek : kids 4 (harg l) = harg l := rfl
      rw [eo] at hle ⊢
      rw [ek] at hc
      exact canon_4 f IH w v dl b off n cap l _ _ c hv hb hne hcap hcap2 hdl hx (by omega) hm rfl rfl hq1 heh o1 hr hh hc
    · have eo : own 5 (harg l) = 0 := rfl
      have ek : kids 5 (harg l) = 2 * harg l := rfl
      rw [eo] at hle ⊢
      rw [ek] at hc
      exact canon_5 f IH w v dl b off n cap l _ _ c hv hb hne hcap hcap2 hdl hx (by omega) hm rfl rfl hq1 heh o1 hr hh hc
    · have eo : own 6 (harg l) = 0 := rfl
      have ek : kids 6 (harg l) = 1 := rfl
      rw [eo] at hle ⊢
      rw [ek] at hc
      obtain ⟨a1, d1, ha1, hd1, rfl⟩ := seqLen_succ hc
      simp [seqLen] at hd1
      subst hd1
      exact canon_6 f IH w v dl b off n cap l _ _ a1 hv hb hne hcap hcap2 hdl hx hqn hm rfl rfl hq1 heh o1 hr hh ha1
    · have e0 : c = 0 := by simp [kids, seqLen] at hc; omega
      subst e0
      exact canon_7 f w v dl b off n cap l _ _ hv hb hne hcap hcap2 hdl hx hqn hm rfl rfl hq1 heh o1 hr hh

/-- The exported name. -/
theorem zzcanon (f : Nat) (w : World) (v : Value) (dl : List UInt8) (b off n cap : Nat) (l : List UInt8) (a : Nat) (hv : Own w v dl) (hb : BytesAt w (some ⟨b, off, none⟩) n l) (hne : v.ownBlock ≠ some b) (hcap : n ≤ cap) (hcap2 : cap ≤ 9223372036854775807)
    (hdl : dl.length + n ≤ 1099511627776) (hi : itemLen f l = some a) : Calls Try.prog 10 #[v, .slice (some ⟨b, off, none⟩) n cap] w (CanonPost f w v dl b n cap l a) := by
  have HC : Hid (Calls Try.prog 21 #[v, .slice (some ⟨b, off, none⟩) n cap] w (CanonPost f w v dl b n cap l a)) := canonC f w v dl b off n cap l a hv hb hne hcap hcap2 hdl hi
  clear hv hb hne hi
  go_enter Try.func10, Try.ntmps10
  go_wp2_with fail
  refine Calls.mono HC.out ?_
  clear HC
  rintro e w' ⟨v', off', o, rfl, h1, h2, h3, h4⟩
  have H1 : Hid (Enc f l o) := h1
  have H2 : Hid (Own w' v' (dl ++ o)) := h2
  have H3 : Hid (Ext w v dl.length w' v' (dl ++ o).length) := h3
  have H4 : Hid (BytesAt w' (some ⟨b, off', none⟩) (n - a) (l.drop a)) := h4
  clear h1 h2 h3 h4
  go_wp2_with fail
  go_ret2
  exact ⟨_, _, _, rfl, H1.out, H2.out, H3.out, H4.out⟩

end Go.Proofs.Qxb6604654a

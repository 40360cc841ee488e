/-
  zzEqual, zzCompare, bytes.Compare, zzMinimal: contracts.
-/
import Derived.Test.Qxb6604654aReadHead
import Derived.Lib.Bytealg
import Derived.Lib.BytesEntry
namespace Go.Proofs.Qxb6604654a
open Go.RowKit

theorem twoDraws (w : World) (a b : Nat) : ∃ q, (w.drewN a).drewN b = w.drewN q := ⟨a + b, by rw [World.drewN_drewN]⟩
/-- Are the two lists the same? -/
def sameB (l m : List UInt8) : Bool := decide (l = m)

theorem ext_of_nb {l m : List UInt8} (hlen : l.length = m.length) (h : ∀ k, k < l.length → nb l k = nb m k) : l = m := by
  refine List.ext_getElem hlen fun i h1 h2 => ?_
  have := h i h1
  unfold nb at this
  rw [List.getD, List.getD, List.getElem?_eq_getElem h1, List.getElem?_eq_getElem h2] at this
  exact UInt8.toNat_inj.1 this

set_option maxHeartbeats 400000 in
theorem equal_any (ao : Option Addr) (n cap : Nat) (l : List UInt8) (ao2 : Option Addr) (n2 cap2 : Nat) (l2 : List UInt8) (w : World) (h : BytesAt w ao n l) (h2 : BytesAt w ao2 n2 l2) (hn : n ≤ 1099511627776) (hn2 : n2 ≤ 1099511627776) :
    Calls Try.prog 14 #[.slice ao n cap, .slice ao2 n2 cap2] w fun e w' => e = .returned (.bool (sameB l l2)) ∧ ∃ q, w' = w.drewN q := by
  have HS : Hid (BytesAt w ao n l) := h
  have HS2 : Hid (BytesAt w ao2 n2 l2) := h2
  have hl := h.len
  have hl2 := h2.len
  clear h h2
  by_cases hne : n = n2
  · subst hne
    go_enter Try.func14, Try.ntmps14
    go_wp2
    go_loopw [5] (fun i wr => ∃ k q : Nat, k ≤ n ∧ i = .int .i64 k ∧ Hid (∀ j, j < k → nb l j = nb l2 j) ∧ wr = w.drewN q) (fun i _ => n - (intOf i).toNat)
    case atStart => exact ⟨0, 0, Nat.zero_le _, rfl, fun j hj => by omega, rfl⟩
    case round =>
      obtain ⟨k, q, hk, rfl, HE, rfl⟩ := hrel
      by_cases hlt : k < n
      · obtain ⟨b, off, rfl, hc⟩ := HS.out.cells (by omega)
        obtain ⟨b2, off2, rfl, hc2⟩ := HS2.out.cells (by omega)
        have c1 := hc k hlt
        have c2 := hc2 k hlt
        rw [byteAt_nb] at c1 c2
        by_cases hx : nb l k = nb l2 k
        · have HE' : Hid (∀ j, j < k + 1 → nb l j = nb l2 j) := fun j hj => by
            by_cases e : j = k
            · rw [e]; exact hx
            · exact HE.out j (by omega)
          rw [hx] at c1
          clear hc hc2 hx HE
          go_wp2
          go_quiet (fail)
          go_wp2
          go_roundw
          case rel => exact ⟨k + 1, _, by omega, by go_num, HE', rfl⟩
          case measure => simp [intOf]; omega
        · have hr : sameB l l2 = false := by
            unfold sameB
            rw [decide_eq_false_iff_not]
            intro e
            rw [e] at hx
            exact hx rfl
          have hb : ((nb l k : Int) != (nb l2 k : Int)) = true := by rw [bne_iff_ne]; omega
          have HR : Hid (sameB l l2 = false) := hr
          clear hc hc2 hx HE hr
          go_wp2
          go_quiet (fail)
          go_wp2
          go_ret
          exact ⟨by rw [HR.out]; rfl, by first | exact ⟨_, rfl⟩ | exact twoDraws _ _ _ | (rw [World.drewN_drewN]; exact twoDraws _ _ _)⟩
      · have hr : sameB l l2 = true := by
          unfold sameB
          rw [decide_eq_true_iff]
          exact ext_of_nb (by omega) fun j hj => HE.out j (by omega)
        have HR : Hid (sameB l l2 = true) := hr
        clear HE hr
        go_wp2
        go_ret
        exact ⟨by rw [HR.out]; rfl, by first | exact ⟨_, rfl⟩ | exact twoDraws _ _ _ | (rw [World.drewN_drewN]; exact twoDraws _ _ _)⟩
  · have hr : sameB l l2 = false := by
      unfold sameB
      rw [decide_eq_false_iff_not]
      intro e
      rw [e] at hl
      omega
    have hb : ((n : Int) != (n2 : Int)) = true := by rw [bne_iff_ne]; omega
    rw [hr]
    clear hr
    go_enter Try.func14, Try.ntmps14
    go_wp2
    go_ret
    exact ⟨rfl, 0, rfl⟩

theorem cmp_step (l m : List UInt8) (k : Nat) (h1 : k < l.length) (h2 : k < m.length) :
    Lib.compareBytes (l.drop k) (m.drop k) = if nb l k < nb m k then -1 else if nb m k < nb l k then 1 else Lib.compareBytes (l.drop (k + 1)) (m.drop (k + 1)) := by
  rw [List.drop_eq_getElem_cons h1, List.drop_eq_getElem_cons h2, Lib.compareBytes]
  have e1 : nb l k = l[k].toNat := by unfold nb; rw [List.getD, List.getElem?_eq_getElem h1]; rfl
  have e2 : nb m k = m[k].toNat := by unfold nb; rw [List.getD, List.getElem?_eq_getElem h2]; rfl
  rw [e1, e2]
  simp only [UInt8.lt_iff_toNat_lt]
theorem cmp_end (l m : List UInt8) (k : Nat) (h : l.length ≤ k ∨ m.length ≤ k) (h1 : k ≤ l.length) (h2 : k ≤ m.length) :
    Lib.compareBytes (l.drop k) (m.drop k) = if l.length < m.length then -1 else if m.length < l.length then 1 else 0 := by
  rcases Nat.lt_trichotomy l.length m.length with c | c | c
  · rw [if_pos c, List.drop_of_length_le (by omega), List.drop_eq_getElem_cons (by omega)]
    rfl
  · rw [if_neg (by omega), if_neg (by omega), List.drop_of_length_le (by omega), List.drop_of_length_le (by omega)]
    rfl
  · rw [if_neg (by omega), if_pos c, List.drop_of_length_le (l := m) (by omega), List.drop_eq_getElem_cons (by omega)]
    rfl

set_option maxHeartbeats 400000 in
theorem compare_any (ao : Option Addr) (n cap : Nat) (l : List UInt8) (ao2 : Option Addr) (n2 cap2 : Nat) (l2 : List UInt8) (w : World) (h : BytesAt w ao n l) (h2 : BytesAt w ao2 n2 l2) (hn : n ≤ 1099511627776) (hn2 : n2 ≤ 1099511627776) :
    Calls Try.prog 23 #[.slice ao n cap, .slice ao2 n2 cap2] w fun e w' => e = .returned (.int .i64 (Lib.compareBytes l l2)) ∧ ∃ q, w' = w.drewN q := by
  have HS : Hid (BytesAt w ao n l) := h
  have HS2 : Hid (BytesAt w ao2 n2 l2) := h2
  have hl := h.len
  have hl2 := h2.len
  obtain ⟨R, hR⟩ : ∃ R, Lib.compareBytes l l2 = R := ⟨_, rfl⟩
  have H0 : Hid (Lib.compareBytes (l.drop 0) (l2.drop 0) = R) := by rw [List.drop_zero, List.drop_zero]; exact hR
  rw [hR]
  clear h h2 hR
  obtain ⟨N, hN⟩ : ∃ N, N = min n n2 := ⟨_, rfl⟩
  have b1 : N ≤ n := by omega
  have b2 : N ≤ n2 := by omega
  have b3 : n ≤ N ∨ n2 ≤ N := by omega
  have loop : ∀ (k q : Nat), k < N → Hid (Lib.compareBytes (l.drop k) (l2.drop k) = R) → (nb l k < nb l2 k ∧ R = -1) ∨ (nb l2 k < nb l k ∧ R = 1) ∨ (nb l k = nb l2 k ∧ Lib.compareBytes (l.drop (k + 1)) (l2.drop (k + 1)) = R) := by
    intro k _ hk H
    have := H.out
    rw [cmp_step l l2 k (by omega) (by omega)] at this
    by_cases c1 : nb l k < nb l2 k
    · rw [if_pos c1] at this; exact .inl ⟨c1, this.symm⟩
    · by_cases c2 : nb l2 k < nb l k
      · rw [if_neg c1, if_pos c2] at this; exact .inr (.inl ⟨c2, this.symm⟩)
      · rw [if_neg c1, if_neg c2] at this; exact .inr (.inr ⟨by omega, this⟩)
  have HL : Hid _ := loop
  have HEnd : Hid (Lib.compareBytes (l.drop N) (l2.drop N) = if n < n2 then -1 else if n2 < n then 1 else 0) := by
    have := cmp_end l l2 N (by omega) (by omega) (by omega)
    rw [hl, hl2] at this
    exact this
  clear loop
  by_cases hc : n2 < n
  · obtain rfl : N = n2 := by omega
    clear hN
    go_enter Try.func23, Try.ntmps23
    go_wp2
    go_loopw [6] (fun i wr => ∃ k q : Nat, k ≤ N ∧ i = .int .i64 k ∧ Hid (Lib.compareBytes (l.drop k) (l2.drop k) = R) ∧ wr = w.drewN q) (fun i _ => N - (intOf i).toNat)
    case atStart => exact ⟨0, 0, Nat.zero_le _, rfl, H0, rfl⟩
    case round =>
      obtain ⟨k, q, hk, rfl, HE, rfl⟩ := hrel
      by_cases hlt : k < N
      · obtain ⟨b, off, rfl, hc1⟩ := HS.out.cells (by omega)
        obtain ⟨b2', off2, rfl, hc2⟩ := HS2.out.cells (by omega)
        have c1 := hc1 k (by omega)
        have c2 := hc2 k (by omega)
        rw [byteAt_nb] at c1 c2
        rcases HL.out k q hlt HE with ⟨d, e⟩ | ⟨d, e⟩ | ⟨d, e⟩
        · have d' : (nb l k : Int) < (nb l2 k : Int) := by omega
          have ER : Hid (R = -1) := e
          clear hc1 hc2 HE HL HEnd H0 e d
          go_wp2
          go_quiet (fail)
          go_wp2
          go_ret
          exact ⟨by rw [ER.out]; rfl, by first | exact ⟨_, rfl⟩ | exact twoDraws _ _ _ | (rw [World.drewN_drewN]; exact twoDraws _ _ _)⟩
        · have d' : (nb l2 k : Int) < (nb l k : Int) := by omega
          have d2 : decide ((nb l k : Int) < (nb l2 k : Int)) = false := by simp; omega
          have ER : Hid (R = 1) := e
          clear hc1 hc2 HE HL HEnd H0 e d
          go_wp2
          go_quiet (fail)
          go_wp2
          go_quiet (fail)
          go_wp2
          go_ret
          exact ⟨by rw [ER.out]; rfl, by first | exact ⟨_, rfl⟩ | exact twoDraws _ _ _ | (rw [World.drewN_drewN]; exact twoDraws _ _ _)⟩
        · have HE' : Hid (Lib.compareBytes (l.drop (k + 1)) (l2.drop (k + 1)) = R) := e
          rw [d] at c1
          clear hc1 hc2 HE HL HEnd H0 e d
          go_wp2
          go_quiet (fail)
          go_wp2
          go_quiet (fail)
          go_wp2
          go_roundw
          case rel => exact ⟨k + 1, _, by omega, by go_num, HE', rfl⟩
          case measure => simp [intOf]; omega
      · obtain rfl : k = N := by omega
        have ER : Hid (R = 1) := by
          have := HE.out
          rw [HEnd.out, if_neg (by omega), if_pos hc] at this
          exact this.symm
        clear HE HL HEnd H0
        go_wp2
        go_ret
        exact ⟨by rw [ER.out]; rfl, by first | exact ⟨_, rfl⟩ | exact twoDraws _ _ _ | (rw [World.drewN_drewN]; exact twoDraws _ _ _)⟩
  · obtain rfl : N = n := by omega
    clear hN
    go_enter Try.func23, Try.ntmps23
    go_wp2
    go_loopw [6] (fun i wr => ∃ k q : Nat, k ≤ N ∧ i = .int .i64 k ∧ Hid (Lib.compareBytes (l.drop k) (l2.drop k) = R) ∧ wr = w.drewN q) (fun i _ => N - (intOf i).toNat)
    case atStart => exact ⟨0, 0, Nat.zero_le _, rfl, H0, rfl⟩
    case round =>
      obtain ⟨k, q, hk, rfl, HE, rfl⟩ := hrel
      by_cases hlt : k < N
      · obtain ⟨b, off, rfl, hc1⟩ := HS.out.cells (by omega)
        obtain ⟨b2', off2, rfl, hc2⟩ := HS2.out.cells (by omega)
        have c1 := hc1 k (by omega)
        have c2 := hc2 k (by omega)
        rw [byteAt_nb] at c1 c2
        rcases HL.out k q hlt HE with ⟨d, e⟩ | ⟨d, e⟩ | ⟨d, e⟩
        · have d' : (nb l k : Int) < (nb l2 k : Int) := by omega
          have ER : Hid (R = -1) := e
          clear hc1 hc2 HE HL HEnd H0 e d
          go_wp2
          go_quiet (fail)
          go_wp2
          go_ret
          exact ⟨by rw [ER.out]; rfl, by first | exact ⟨_, rfl⟩ | exact twoDraws _ _ _ | (rw [World.drewN_drewN]; exact twoDraws _ _ _)⟩
        · have d' : (nb l2 k : Int) < (nb l k : Int) := by omega
          have d2 : decide ((nb l k : Int) < (nb l2 k : Int)) = false := by simp; omega
          have ER : Hid (R = 1) := e
          clear hc1 hc2 HE HL HEnd H0 e d
          go_wp2
          go_quiet (fail)
          go_wp2
          go_quiet (fail)
          go_wp2
          go_ret
          exact ⟨by rw [ER.out]; rfl, by first | exact ⟨_, rfl⟩ | exact twoDraws _ _ _ | (rw [World.drewN_drewN]; exact twoDraws _ _ _)⟩
        · have HE' : Hid (Lib.compareBytes (l.drop (k + 1)) (l2.drop (k + 1)) = R) := e
          rw [d] at c1
          clear hc1 hc2 HE HL HEnd H0 e d
          go_wp2
          go_quiet (fail)
          go_wp2
          go_quiet (fail)
          go_wp2
          go_roundw
          case rel => exact ⟨k + 1, _, by omega, by go_num, HE', rfl⟩
          case measure => simp [intOf]; omega
      · obtain rfl : k = N := by omega
        by_cases hd : k < n2
        · have ER : Hid (R = -1) := by
            have := HE.out
            rw [HEnd.out, if_pos hd] at this
            exact this.symm
          clear HE HL HEnd H0
          go_wp2
          go_ret
          exact ⟨by rw [ER.out]; rfl, by first | exact ⟨_, rfl⟩ | exact twoDraws _ _ _ | (rw [World.drewN_drewN]; exact twoDraws _ _ _)⟩
        · have ER : Hid (R = 0) := by
            have := HE.out
            rw [HEnd.out, if_neg hd, if_neg hc] at this
            exact this.symm
          clear HE HL HEnd H0
          go_wp2
          go_ret
          exact ⟨by rw [ER.out]; rfl, by first | exact ⟨_, rfl⟩ | exact twoDraws _ _ _ | (rw [World.drewN_drewN]; exact twoDraws _ _ _)⟩

/-- bytes.Compare. -/
theorem run_bytesOf {w : World} {ao : Option Addr} {n cap : Nat} {l : List UInt8} (h : BytesAt w ao n l) : (Extern.Bytes.bytesOf (.slice ao n cap)).run Try.prog w = .ok ⟨l.toArray⟩ w := by
  cases ao with
  | none =>
    have h0 : n = 0 := by
      rcases Nat.eq_zero_or_pos n with e | e
      · exact e
      · obtain ⟨_, _, e, _⟩ := h.cells e
        simp at e
    have : l = [] := List.eq_nil_of_length_eq_zero (by rw [h.len, h0])
    subst this
    rfl
  | some a =>
    have hl := Lib.run_loadBytesX (P := Try.prog) w (l.map fun b => (b.toNat : Int)) a .empty (fun j x hj => by
      have hjl : j < l.length := by
        have := (List.getElem?_eq_some_iff.1 hj).1
        simpa using this
      have := h.len
      obtain ⟨b, off, e, hc⟩ := h.cells (by omega)
      obtain rfl := Option.some.inj e
      rw [Addr.add_lit, hc j (by omega)]
      rw [List.getElem?_map, List.getElem?_eq_getElem hjl] at hj
      simp only [Option.map_some, Option.some.injEq] at hj
      rw [← hj, byteAt_nb]
      unfold nb
      rw [List.getD, List.getElem?_eq_getElem hjl]
      rfl)
    rw [List.length_map, h.len] at hl
    refine Eq.trans hl ?_
    congr 1
    apply ByteArray.ext
    have e : ((fun n : Int => UInt8.ofNat n.toNat) ∘ fun b : UInt8 => (b.toNat : Int)) = id := by
      funext b
      simp
    simp [Lib.bytesOf, e]

theorem bytesCompare_any (ao : Option Addr) (n cap : Nat) (l : List UInt8) (ao2 : Option Addr) (n2 cap2 : Nat) (l2 : List UInt8) (w : World) (h : BytesAt w ao n l) (h2 : BytesAt w ao2 n2 l2) :
    Calls Try.prog 37 #[.slice ao n cap, .slice ao2 n2 cap2] w fun e w' => e = .returned (.int .i64 (Lib.compareBytes l l2)) ∧ w' = w := by
  have hr : (callFunc 40 #[.slice ao n cap, .slice ao2 n2 cap2]).run Try.prog w = .ok (.value (.int .i64 (Lib.compareBytes l l2))) w := by
    rw [run_callFunc_extern Try.func40 (by kernel_rfl) (by kernel_rfl) (by kernel_rfl) (e := Extern.BytealgCompare.compare) (by kernel_rfl)]
    rw [show Extern.BytealgCompare.compare #[.slice ao n cap, .slice ao2 n2 cap2] = (do pure (goInt (Extern.BytealgCompare.cmp (← Extern.Bytes.bytesOf (.slice ao n cap)) (← Extern.Bytes.bytesOf (.slice ao2 n2 cap2))))) from rfl]
    simp only [Sem.run_bind, run_bytesOf h, run_bytesOf h2, Result.andThen, Sem.run_pure, Lib.cmp_eq]
    rfl
  clear h h2
  generalize Lib.compareBytes l l2 = R at *
  go_enter Try.func37, Try.ntmps37
  go_wp2
  go_ret
  exact ⟨rfl, rfl⟩

end Go.Proofs.Qxb6604654a

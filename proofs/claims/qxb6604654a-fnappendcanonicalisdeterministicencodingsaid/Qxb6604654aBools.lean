/-
  Small callees of the laws: zzClone, zzHasPrefix, appendItem of a Bool, head at a byte below 24.
-/
import Derived.Test.Qxb6604654aBytes
namespace Go.Proofs.Qxb6604654a
open Go.RowKit

def IsBool (e : Ending) : Prop := ∃ t : Bool, e = .returned (.bool t)
theorem IsBool.mk (t : Bool) : IsBool (.returned (.bool t)) := ⟨t, rfl⟩

theorem bytesBool_any (x : Bool) (ao : Option Addr) (n cap : Nat) (w : World) (hn : n ≤ 9223372036854775807) :
    Calls Try.prog 16 #[.bool x, .slice ao n cap] w fun e w' => IsBool e ∧ w' = w := by
  go_enter Try.func16, Try.ntmps16
  go_wp2
  all_goals (go_ret; exact ⟨IsBool.mk _, rfl⟩)

theorem q22 (w : World) (a : Option Addr) (n c n' c' : Nat) : (binOp .eql 22 (.slice a n c) (.slice none n' c')).run Try.prog w = .ok (.bool a.isNone) w := Lib.run_eql_slice_nil w _ _ a n c n' c' Try.underlying22
theorem Try.one5 : (Try.prog.info? 5).map (·.size) = some 1 := by kernel_rfl

/-- zzClone: the same bytes, in a row of the call's own. -/
theorem clone_any (ao : Option Addr) (n cap : Nat) (l : List UInt8) (w : World) (h : BytesAt w ao n l) (hn : n ≤ 1048576) :
    Calls Try.prog 9 #[.slice ao n cap] w fun e w' => ∃ v, e = .returned v ∧ Own w' v l ∧ Below w.heap.size w w' ∧ ∀ g, v.ownBlock = some g → w.heap.size ≤ g := by
  have HS : Hid (BytesAt w ao n l) := h
  clear h
  have q := q22
  obtain ⟨i0, hi, hz0, hz1, hz2⟩ := info_parts Try.info5
  cases ao with
  | none =>
    have h0 : n = 0 := by
      rcases Nat.eq_zero_or_pos n with h | h
      · exact h
      · obtain ⟨_, _, e, _⟩ := HS.out.cells h
        simp at e
    subst h0
    have hl : l = [] := List.eq_nil_of_length_eq_zero HS.out.len
    subst hl
    go_enter Try.func9, Try.ntmps9
    go_wp2
    go_ret
    exact ⟨_, rfl, Own.nil _, Below.refl _ _, fun g hg => by simp [Value.ownBlock] at hg⟩
  | some a =>
    go_enter Try.func9, Try.ntmps9
    go_wp2_with (at_make; refine wpList_make_full _ rfl _ _ 22 rfl w.heap.size 5 i0 (.int .u8 0) 1 Try.underlying22 hi hz0 hz1 _ _ _ _ n rfl rfl rfl rfl (by rw [hz2]; omega) (by unfold maxLen; omega) (Nat.le_refl _) ?_; intro w1 hown1 hgrow1)
    have HO : Hid (w1.ownsRow w.heap.size 5 1 (.slice (some ⟨w.heap.size, 0, none⟩) n n) n (madeCells (Value.int .u8 0).cells (n * 1)).toList) := hown1
    have HB1 : Hid (Below w.heap.size w w1) := (Below.refl _ _).grown hgrow1 (Nat.le_refl _) (fun k hk => by simp at hk)
    clear hown1 hgrow1
    have hlen := HS.out.len
    rcases HO.out.2 with ⟨e, _⟩ | ⟨g', cap', cur, e, _, hg, _, hcm, hcs, _⟩
    · simp at e
    simp only [Value.slice.injEq, Option.some.injEq, Addr.mk.injEq, and_true, true_and] at e
    obtain ⟨rfl, rfl⟩ := e
    have hsrc : ∀ j v, (vals l)[j]? = some v → w1.cell? (a.add j) = some v := by
      intro j u hu
      have hj : j < l.length := by
        have := (List.getElem?_eq_some_iff.1 hu).1
        rwa [vals_length] at this
      obtain ⟨b, off, e, hc⟩ := (HS.out.mono HB1.out).cells (by omega)
      obtain rfl := Option.some.inj e
      rw [vals_get l j hj] at hu
      rw [Addr.add_lit, hc j (by omega), ← hu]
    have hrun := run_copy_row (P := Try.prog) w1 22 22 3 5 w.heap.size 0 n n a n cap cur 5 (vals l) Try.underlying22 Try.one5 hg (by rw [vals_length]; simp; omega) hsrc (by rw [vals_length]; omega) (vals_one l)
    have hrow : (cur.toList.take 0 ++ vals l ++ cur.toList.drop (0 + (vals l).length)) = vals l := by
      rw [List.take_zero, List.nil_append, List.drop_of_length_le (by rw [vals_length, Array.length_toList]; omega), List.append_nil]
    rw [hrow] at hrun
    have HO2 : Hid (Own (w1.setRow w.heap.size (vals l).toArray) (.slice (some ⟨w.heap.size, 0, none⟩) n n) l) := by
      refine ⟨by rw [vals_length]; omega, .inr ⟨w.heap.size, n, (vals l).toArray, by rw [hlen], Nat.zero_le _, setRow_heap w1 w.heap.size _ _ 5 _ hg, by omega, hcm, by simp [vals_length]; omega, ?_⟩⟩
      rw [List.take_of_length_le (by simp [vals_length])]
    have HB2 : Hid (Below w.heap.size w (w1.setRow w.heap.size (vals l).toArray)) := below_setRow HB1.out (Nat.le_refl _) _
    clear HO HB1 hg hsrc hrow hcm hcs hlen
    rw [hrun]
    clear hrun
    simp only [Result.andThen]
    go_wp2
    go_ret
    exact ⟨_, rfl, HO2.out, HB2.out, fun g hg => by simp [Value.ownBlock] at hg; omega⟩

/-- The byte of a Bool. -/
def boolByte (x : Bool) : UInt8 := match x with | true => 245 | false => 244
/-- (Bool).appendItem: one byte more. -/
theorem appendItem_any (x : Bool) (v : Value) (l : List UInt8) (w : World) (h : Own w v l) (hl : l.length ≤ 1048577) :
    Calls Try.prog 25 #[.bool x, v] w fun e w' => ∃ v', e = .returned (.tuple #[v', .nilIface]) ∧ Own w' v' (l ++ [boolByte x]) ∧ Ext w v l.length w' v' (l ++ [boolByte x]).length := by
  have HO : Hid (Own w v l) := h
  clear h
  cases x with
  | true =>
    go_enter Try.func25, Try.ntmps25
    go_wp2_with (at_builtin; refine wpList_append_mine _ rfl _ _ rfl v l rfl (HO.out.below ((Below.refl _ _).alloc (Nat.le_refl _) _)) ⟨w.heap.size, 0, none⟩ 1 1 [245] rfl rfl ?c1 ?c2 ?_)
    case c1 =>
      intro j hj
      obtain rfl : j = 0 := by omega
      simp [Addr.add, byteAt]
    case c2 => omega
    intro v' w' ho he
    have HO' : Hid (Own w' v' (l ++ [245])) := ho
    have HE : Hid (Ext w v l.length w' v' (l ++ [boolByte true]).length) := by rw [List.length_append]; exact Ext.after ((Below.refl _ _).alloc (Nat.le_refl _) _) he
    clear ho he
    go_wp2
    go_ret2
    exact ⟨_, rfl, HO'.out, HE.out⟩
  | false =>
    go_enter Try.func25, Try.ntmps25
    go_wp2_with (at_builtin; refine wpList_append_mine _ rfl _ _ rfl v l rfl (HO.out.below ((Below.refl _ _).alloc (Nat.le_refl _) _)) ⟨w.heap.size, 0, none⟩ 1 1 [244] rfl rfl ?c1 ?c2 ?_)
    case c1 =>
      intro j hj
      obtain rfl : j = 0 := by omega
      simp [Addr.add, byteAt]
    case c2 => omega
    intro v' w' ho he
    have HO' : Hid (Own w' v' (l ++ [244])) := ho
    have HE : Hid (Ext w v l.length w' v' (l ++ [boolByte false]).length) := by rw [List.length_append]; exact Ext.after ((Below.refl _ _).alloc (Nat.le_refl _) _) he
    clear ho he
    go_wp2
    go_ret2
    exact ⟨_, rfl, HO'.out, HE.out⟩

theorem zzAppendItem_any (x : Bool) (v : Value) (l : List UInt8) (w : World) (h : Own w v l) (hl : l.length ≤ 1048577) :
    Calls Try.prog 17 #[.bool x, v] w fun e w' => ∃ v', e = .returned (.tuple #[v', .nilIface]) ∧ Own w' v' (l ++ [boolByte x]) ∧ Ext w v l.length w' v' (l ++ [boolByte x]).length := by
  have HO : Hid (Own w v l) := h
  clear h
  go_enter Try.func17, Try.ntmps17
  go_wp2_with (go_at_call 25; refine (appendItem_any x v l _ HO.out hl).mono ?_; rintro e w' ⟨v', rfl, ho, he⟩)
  go_ret2
  exact ⟨_, rfl, ho, he⟩

/-- zzHasPrefix: yes, where the first bytes are the same. -/
theorem hasPrefix_yes (ao : Option Addr) (n cap : Nat) (l : List UInt8) (ao2 : Option Addr) (n2 cap2 : Nat) (l2 : List UInt8) (w : World) (h : BytesAt w ao n (l2 ++ l)) (h2 : BytesAt w ao2 n2 l2)
    (hn : n ≤ 9223372036854775807) :
    Calls Try.prog 11 #[.slice ao n cap, .slice ao2 n2 cap2] w fun e w' => e = .returned (.bool true) ∧ ∃ q, w' = w.drewN q := by
  have HS : Hid (BytesAt w ao n (l2 ++ l)) := h
  have HS2 : Hid (BytesAt w ao2 n2 l2) := h2
  have hle : n2 ≤ n := by
    have a := h.len; have b := h2.len
    rw [List.length_append] at a
    omega
  clear h h2
  have hd : decide ((n : Int) < n2) = false := by simp; omega
  go_enter Try.func11, Try.ntmps11
  go_wp2
  go_loopw [5] (fun i wr => ∃ k q : Nat, k ≤ n2 ∧ i = .int .i64 k ∧ wr = w.drewN q) (fun i _ => n2 - (intOf i).toNat)
  case atStart => exact ⟨0, 0, Nat.zero_le _, rfl, rfl⟩
  case round =>
    obtain ⟨k, q, hk, rfl, rfl⟩ := hrel
    by_cases hlt : k < n2
    · obtain ⟨b, off, rfl, hc⟩ := HS.out.cells (by omega)
      obtain ⟨b2, off2, rfl, hc2⟩ := HS2.out.cells (by omega)
      have c1 := hc k (by omega)
      have c2 := hc2 k hlt
      have he : byteAt (l2 ++ l) k = byteAt l2 k := by
        have := HS2.out.len
        unfold byteAt
        rw [List.getD, List.getD, List.getElem?_append_left (by omega)]
      rw [he] at c1
      clear hc hc2 he
      go_wp2
      go_quiet (fail)
      go_wp2
      go_roundw
      case rel => exact ⟨k + 1, _, by omega, by go_num, rfl⟩
      case measure => simp [intOf]; omega
    · go_wp2
      go_ret
      exact ⟨rfl, q, rfl⟩

end Go.Proofs.Qxb6604654a

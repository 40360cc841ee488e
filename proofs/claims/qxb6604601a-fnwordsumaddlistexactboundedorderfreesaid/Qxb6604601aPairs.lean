/-
  The list of word pairs: the count of its bytes, and its clone.
-/
import Derived.Test.Qxb6604601aAdd
namespace Go.Proofs.Qxb6604601a
open Go.RowKit

/-- A slice of n pairs of words at ao: pair k is (H k, L k). -/
structure PairsAt (w : World) (ao : Option Addr) (n : Nat) (H L : Nat → Int) : Prop where
  cells : 0 < n → ∃ b off, ao = some ⟨b, off, none⟩ ∧ ∀ k, k < n → w.cell? ⟨b, off + k * 2, none⟩ = some (.int .u64 (H k)) ∧ w.cell? ⟨b, off + k * 2 + 1, none⟩ = some (.int .u64 (L k))

theorem PairsAt.mono {w w' : World} {ao : Option Addr} {n : Nat} {H L : Nat → Int} (h : PairsAt w ao n H L) (hb : Below w.heap.size w w') : PairsAt w' ao n H L := by
  refine ⟨fun hn => ?_⟩
  obtain ⟨b, off, e, hc⟩ := h.cells hn
  refine ⟨b, off, e, fun k hk => ?_⟩
  have hlt : b < w.heap.size := World.block_lt_of_cell? w ⟨b, off + k * 2, none⟩ (hc k hk).1
  exact ⟨(hb.cell (p := ⟨b, off + k * 2, none⟩) hlt).trans (hc k hk).1, (hb.cell (p := ⟨b, off + k * 2 + 1, none⟩) hlt).trans (hc k hk).2⟩

def IsBool' (e : Ending) : Prop := ∃ t : Bool, e = .returned (.bool t)
theorem IsBool'.mk (t : Bool) : IsBool' (.returned (.bool t)) := ⟨t, rfl⟩

theorem bytesList_any (ao : Option Addr) (n cap : Nat) (w : World) (hn : n ≤ 9223372036854775807) :
    Calls Try.prog 13 #[.slice ao n cap] w fun e w' => IsBool' e ∧ w' = w := by
  go_enter Try.func13, Try.ntmps13
  go_wp2
  all_goals (go_ret; exact ⟨IsBool'.mk _, rfl⟩)

theorem Try.info33 : (Try.prog.info? 33).map (fun i => (i.zero, i.size, i.bytes)) = some (some (.agg #[.int .u64 0, .int .u64 0]), 2, 16) := by kernel_rfl

theorem own_cell2 {w : World} {base : Nat} {e : TypeId} {g n cap : Nat} {xs : List Value} (h : w.ownsRow base e 2 (.slice (some ⟨g, 0, none⟩) n cap) n xs) {j : Nat} (hj : j < n * 2) : ∃ u, w.cell? ⟨g, j, none⟩ = some u ∧ xs[j]? = some u := by
  have hl := h.1
  have := h.cellAt j (by omega)
  rw [List.getElem?_eq_getElem (by omega)] at this
  exact ⟨_, this, List.getElem?_eq_getElem (by omega)⟩

set_option maxHeartbeats 400000 in
/-- zzClonePairs. -/
theorem clonePairs_any (ao : Option Addr) (n cap : Nat) (H L : Nat → Int) (w : World) (h : PairsAt w ao n H L) (hn : n ≤ 4096) :
    Calls Try.prog 14 #[.slice ao n cap] w fun e w' => ∃ ao' cap', e = .returned (.slice ao' n cap') ∧ PairsAt w' ao' n H L ∧ Below w.heap.size w w' := by
  have HS : Hid (PairsAt w ao n H L) := h
  clear h
  obtain ⟨i0, hi, hz0, hz1, hz2⟩ := info_parts Try.info33
  have q30 : ∀ (w : World) (a : Option Addr) (n c n' c' : Nat), (binOp .eql 30 (.slice a n c) (.slice none n' c')).run Try.prog w = .ok (.bool a.isNone) w := fun w a n c n' c' => Lib.run_eql_slice_nil w _ _ a n c n' c' Try.underlying30
  cases ao with
  | none =>
    have h0 : n = 0 := by
      rcases Nat.eq_zero_or_pos n with h | h
      · exact h
      · obtain ⟨_, _, e, _⟩ := HS.out.cells h
        simp at e
    subst h0
    go_enter Try.func14, Try.ntmps14
    go_wp2
    go_ret
    exact ⟨_, _, rfl, HS.out, Below.refl _ _⟩
  | some a =>
    go_enter Try.func14, Try.ntmps14
    go_wp2_with (at_make; refine wpList_make_full _ rfl _ _ 30 rfl w.heap.size 33 i0 (.agg #[.int .u64 0, .int .u64 0]) 2 Try.underlying30 hi hz0 hz1 _ _ _ _ n rfl rfl rfl rfl (by rw [hz2]; omega) (by unfold maxLen; omega) (Nat.le_refl _) ?_; intro w1 hown1 hgrow1)
    have hb1 : Hid (Below w.heap.size w w1) := (Below.refl _ _).grown hgrow1 (Nat.le_refl _) (fun k hk => by simp at hk)
    have hx1 : Hid (∃ xs, w1.ownsRow w.heap.size 33 2 (.slice (some ⟨w.heap.size, 0, none⟩) n n) n xs ∧ ∀ j, j < 0 → xs[j * 2]? = some (.int .u64 (H j)) ∧ xs[j * 2 + 1]? = some (.int .u64 (L j))) := ⟨_, hown1, fun j hj => by omega⟩
    clear hown1 hgrow1
    go_loopw [4] (fun i wr => ∃ k : Nat, k ≤ n ∧ i = .int .i64 k ∧ Hid (Below w.heap.size w wr) ∧ Hid (∃ xs, wr.ownsRow w.heap.size 33 2 (.slice (some ⟨w.heap.size, 0, none⟩) n n) n xs ∧ ∀ j, j < k → xs[j * 2]? = some (.int .u64 (H j)) ∧ xs[j * 2 + 1]? = some (.int .u64 (L j))))
      (fun i _ => n - (intOf i).toNat)
    case atStart => exact ⟨0, Nat.zero_le _, rfl, hb1, hx1⟩
    case round =>
      clear hb1 hx1
      obtain ⟨k, hk, rfl, HB, HX⟩ := hrel
      by_cases hlt : k < n
      · obtain ⟨b, off, e, hc⟩ := HS.out.cells (by omega)
        obtain rfl := Option.some.inj e
        have hbw := World.block_lt_of_cell? w ⟨b, off + k * 2, none⟩ (hc k hlt).1
        have hck : wr.cell? ⟨b, off + k * 2, none⟩ = some (.int .u64 (H k)) := (HB.out.cell (p := ⟨b, off + k * 2, none⟩) hbw).trans (hc k hlt).1
        have hck' : wr.cell? ⟨b, off + k * 2 + 1, none⟩ = some (.int .u64 (L k)) := (HB.out.cell (p := ⟨b, off + k * 2 + 1, none⟩) hbw).trans (hc k hlt).2
        obtain ⟨xs, hown, hxs⟩ := HX.out
        obtain ⟨u, hcu, hxu⟩ := own_cell2 hown (j := k * 2) (by omega)
        obtain ⟨u', hcu', hxu'⟩ := own_cell2 hown (j := k * 2 + 1) (by omega)
        have hfu := hown.frozenAt (k * 2)
        have hfu' := hown.frozenAt (k * 2 + 1)
        have HB' : Hid (Below w.heap.size w ((wr.setCell ⟨w.heap.size, k * 2, none⟩ (.int .u64 (H k))).setCell ⟨w.heap.size, k * 2 + 1, none⟩ (.int .u64 (L k)))) := (HB.out.setCell (Nat.le_refl _) _).setCell (Nat.le_refl _) _
        have HX' : Hid (∃ xs, ((wr.setCell ⟨w.heap.size, k * 2, none⟩ (.int .u64 (H k))).setCell ⟨w.heap.size, k * 2 + 1, none⟩ (.int .u64 (L k))).ownsRow w.heap.size 33 2 (.slice (some ⟨w.heap.size, 0, none⟩) n n) n xs ∧ ∀ j, j < k + 1 → xs[j * 2]? = some (.int .u64 (H j)) ∧ xs[j * 2 + 1]? = some (.int .u64 (L j))) := by
          refine ⟨_, ((hown.stored (k * 2) _).1.stored (k * 2 + 1) _).1, fun j hj => ?_⟩
          have hl := hown.1
          rw [List.getElem?_set, List.getElem?_set, List.getElem?_set, List.getElem?_set]
          by_cases hjk : k = j
          · subst hjk
            rw [if_neg (by omega), if_pos rfl, if_pos (by omega), if_pos rfl, if_pos (by simp; omega)]
            exact ⟨rfl, rfl⟩
          · rw [if_neg (by omega), if_neg (by omega), if_neg (by omega), if_neg (by omega)]
            exact hxs j (by omega)
        clear hc hown hxs hxu hxu' HB HX
        go_wp2
        go_roundw
        case rel => exact ⟨k + 1, by omega, by go_num, HB', HX'⟩
        case measure => simp [intOf]; omega
      · go_wp2
        go_ret
        obtain ⟨xs, hown, hxs⟩ := HX.out
        refine ⟨_, _, rfl, ⟨fun _ => ⟨w.heap.size, 0, rfl, fun j hj => ?_⟩⟩, HB.out⟩
        rw [Nat.zero_add, hown.cellAt (j * 2) (by omega), hown.cellAt (j * 2 + 1) (by omega)]
        exact hxs j (by omega)

end Go.Proofs.Qxb6604601a

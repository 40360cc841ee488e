/-
  placesIn: the contract. Its plain function: the last index at which a string occurs, 0 if none.
-/
import Derived.Test.Qxb6604601aStrs
namespace Go.Proofs.Qxb6604601a
open Go.RowKit

/-- The last of the first m indices at which S is nm; 0 if there is none. -/
def lastIdx (S : Nat → ByteArray) (nm : ByteArray) : Nat → Nat
  | 0 => 0
  | m + 1 => if (S m).toList == nm.toList then m else lastIdx S nm m

theorem lastIdx_hit {S : Nat → ByteArray} {nm : ByteArray} {m : Nat} (h : ((S m).toList == nm.toList) = true) : lastIdx S nm (m + 1) = m := by rw [lastIdx, if_pos h]
theorem lastIdx_miss {S : Nat → ByteArray} {nm : ByteArray} {m : Nat} (h : ((S m).toList == nm.toList) = false) : lastIdx S nm (m + 1) = lastIdx S nm m := by rw [lastIdx, h]; rfl

/-- What the row of places holds while name k has been looked for among the first m columns. -/
def partly (S S2 : Nat → ByteArray) (n k m j : Nat) : Nat := if j < k then lastIdx S (S2 j) n else if j = k then lastIdx S (S2 j) m else 0

theorem partly_done (S S2 : Nat → ByteArray) (n k j : Nat) : partly S S2 n k n j = partly S S2 n (k + 1) 0 j := by
  unfold partly
  by_cases h1 : j < k
  · rw [if_pos h1, if_pos (by omega)]
  · by_cases h2 : j = k
    · rw [if_neg h1, if_pos h2, if_pos (by omega)]
    · rw [if_neg h1, if_neg h2, if_neg (by omega)]
      split
      · rfl
      · rfl
theorem partly_other (S S2 : Nat → ByteArray) (n k m m' j : Nat) (h : j ≠ k) : partly S S2 n k m j = partly S S2 n k m' j := by
  unfold partly
  by_cases h1 : j < k
  · rw [if_pos h1, if_pos h1]
  · rw [if_neg h1, if_neg h1, if_neg h, if_neg h]
theorem partly_here (S S2 : Nat → ByteArray) (n k m : Nat) : partly S S2 n k m k = lastIdx S (S2 k) m := by
  unfold partly
  rw [if_neg (by omega), if_pos rfl]
theorem partly_start (S S2 : Nat → ByteArray) (n j : Nat) : partly S S2 n 0 0 j = 0 := by
  unfold partly
  rw [if_neg (by omega)]
  split
  · rfl
  · rfl
theorem partly_all (S S2 : Nat → ByteArray) (n k j : Nat) (h : j < k) : partly S S2 n k 0 j = lastIdx S (S2 j) n := by
  unfold partly
  rw [if_pos h]

/-- A row of n ints of the call's own, at the head of block g. -/
def OwnInts (base : Nat) (w : World) (g n : Nat) (F : Nat → Nat) : Prop :=
  ∃ xs, w.ownsRow base 3 1 (.slice (some ⟨g, 0, none⟩) n n) n xs ∧ ∀ j, j < n → xs[j]? = some (.int .i64 (F j))

theorem OwnInts.set {base : Nat} {w : World} {g n : Nat} {F F' : Nat → Nat} {v : Nat} (h : OwnInts base w g n F) (k : Nat) (hk : k < n) (h1 : F' k = v) (h2 : ∀ j, j ≠ k → F' j = F j) :
    OwnInts base (w.setCell ⟨g, k, none⟩ (.int .i64 (v : Nat))) g n F' := by
  obtain ⟨xs, hown, hxs⟩ := h
  refine ⟨_, (hown.stored k _).1, fun j hj => ?_⟩
  have hl := hown.1
  rw [List.getElem?_set]
  by_cases hjk : k = j
  · subst hjk; rw [if_pos rfl, if_pos (by omega), h1]
  · rw [if_neg hjk, hxs j hj, h2 j (fun e => hjk e.symm)]
theorem OwnInts.congr {base : Nat} {w : World} {g n : Nat} {F F' : Nat → Nat} (h : OwnInts base w g n F) (h2 : ∀ j, F' j = F j) : OwnInts base w g n F' := by
  obtain ⟨xs, hown, hxs⟩ := h
  exact ⟨xs, hown, fun j hj => by rw [h2]; exact hxs j hj⟩

/-- A slice of n ints at ao: number k is F k. -/
structure IntsAt (w : World) (ao : Option Addr) (n : Nat) (F : Nat → Nat) : Prop where
  cells : 0 < n → ∃ b off, ao = some ⟨b, off, none⟩ ∧ ∀ k, k < n → w.cell? ⟨b, off + k, none⟩ = some (.int .i64 (F k))

theorem OwnInts.at {base : Nat} {w : World} {g n : Nat} {F : Nat → Nat} (h : OwnInts base w g n F) : IntsAt w (some ⟨g, 0, none⟩) n F := by
  obtain ⟨xs, hown, hxs⟩ := h
  refine ⟨fun _ => ⟨g, 0, rfl, fun j hj => ?_⟩⟩
  rw [Nat.zero_add, hown.cellAt j (by omega)]
  exact hxs j hj

theorem made_zero (n j : Nat) (h : j < n) : (madeCells (Value.int .i64 0).cells (n * 1)).toList[j]? = some (.int .i64 0) := by
  rw [Nat.mul_one]
  show (madeCells #[Value.int .i64 0] n).toList[j]? = _
  rw [toList_madeCells_one, List.getElem?_replicate, if_pos h]

set_option maxHeartbeats 400000 in
theorem places_any (ao : Option Addr) (n cap : Nat) (S : Nat → ByteArray) (ao2 : Option Addr) (n2 cap2 : Nat) (S2 : Nat → ByteArray) (w : World) (h : StrsAt w ao n S) (h2 : StrsAt w ao2 n2 S2)
    (hn : n ≤ 1024) (hn2 : n2 ≤ 1024) :
    Calls Try.prog 25 #[.slice ao n cap, .slice ao2 n2 cap2] w fun e w' => ∃ ao' cap', e = .returned (.slice ao' n2 cap') ∧ IntsAt w' ao' n2 (fun j => lastIdx S (S2 j) n) ∧ Below w.heap.size w w' := by
  have HS : Hid (StrsAt w ao n S) := h
  have HS2 : Hid (StrsAt w ao2 n2 S2) := h2
  clear h h2
  obtain ⟨i0, hi, hz0, hz1, hz2⟩ := info_parts Try.info3
  go_enter Try.func25, Try.ntmps25
  go_wp2_with (at_make; refine wpList_make_full _ rfl _ _ 45 rfl w.heap.size 3 i0 (.int .i64 0) 1 Try.underlying45 hi hz0 hz1 _ _ _ _ n2 rfl rfl rfl rfl (by rw [hz2]; omega) (by unfold maxLen; omega) (Nat.le_refl _) ?_; intro w1 hown1 hgrow1)
  have hb1 : Hid (Below w.heap.size w w1) := (Below.refl _ _).grown hgrow1 (Nat.le_refl _) (fun k hk => by simp at hk)
  have hx1 : Hid (OwnInts w.heap.size w1 w.heap.size n2 (partly S S2 n 0 0)) := ⟨_, hown1, fun j hj => by rw [partly_start]; exact made_zero n2 j hj⟩
  clear hown1 hgrow1
  go_loopw [14] (fun i wr => ∃ k : Nat, k ≤ n2 ∧ i = .int .i64 k ∧ Hid (Below w.heap.size w wr) ∧ Hid (OwnInts w.heap.size wr w.heap.size n2 (partly S S2 n k 0)))
    (fun i _ => n2 - (intOf i).toNat)
  case atStart => exact ⟨0, Nat.zero_le _, rfl, hb1, hx1⟩
  case round =>
    clear hb1 hx1
    obtain ⟨k, hk, rfl, HB, HX⟩ := hrel
    by_cases hlt : k < n2
    · obtain ⟨b2, off2, rfl, hc2⟩ := HS2.out.cells (by omega)
      have hck2 : wr.cell? ⟨b2, off2 + k, none⟩ = some (.string (S2 k)) := (HB.out.cell (p := ⟨b2, off2 + k, none⟩) (World.block_lt_of_cell? w ⟨b2, off2 + k, none⟩ (hc2 k hlt))).trans (hc2 k hlt)
      clear hc2
      go_wp2
      clear hck2
      go_loopw [21] (fun i wr2 => ∃ m : Nat, m ≤ n ∧ i = .int .i64 m ∧ Hid (Below w.heap.size w wr2) ∧ Hid (OwnInts w.heap.size wr2 w.heap.size n2 (partly S S2 n k m)))
        (fun i _ => n - (intOf i).toNat)
      case atStart => exact ⟨0, Nat.zero_le _, rfl, HB, HX⟩
      case round =>
        clear HB HX
        obtain ⟨m, hm, rfl, HB, HX⟩ := hrel
        by_cases hltm : m < n
        · obtain ⟨b, off, rfl, hc⟩ := HS.out.cells (by omega)
          have hck : wr.cell? ⟨b, off + m, none⟩ = some (.string (S m)) := (HB.out.cell (p := ⟨b, off + m, none⟩) (World.block_lt_of_cell? w ⟨b, off + m, none⟩ (hc m hltm))).trans (hc m hltm)
          clear hc
          cases hq : (S m).toList == (S2 k).toList with
          | true =>
            obtain ⟨xs, hown, hxs⟩ := HX.out
            obtain ⟨u, hcu, hxu⟩ := own_cell hown hlt
            have hfu := hown.frozenAt k
            have HB' : Hid (Below w.heap.size w (wr.setCell ⟨w.heap.size, k, none⟩ (.int .i64 m))) := HB.out.setCell (Nat.le_refl _) _
            have HX' : Hid (OwnInts w.heap.size (wr.setCell ⟨w.heap.size, k, none⟩ (.int .i64 m)) w.heap.size n2 (partly S S2 n k (m + 1))) :=
              HX.out.set k hlt (by rw [partly_here]; exact lastIdx_hit hq) (fun j hj => partly_other S S2 n k (m + 1) m j hj)
            clear hown hxs hxu HB HX
            go_wp2
            go_roundw
            case rel => exact ⟨m + 1, by omega, by go_num, HB', HX'⟩
            case measure => simp [intOf]; omega
          | false =>
            have HX' : Hid (OwnInts w.heap.size wr w.heap.size n2 (partly S S2 n k (m + 1))) := HX.out.congr (fun j => by
              by_cases hj : j = k
              · subst hj; rw [partly_here, partly_here]; exact lastIdx_miss hq
              · exact partly_other S S2 n k (m + 1) m j hj)
            clear HX
            go_wp2
            go_roundw
            case rel => exact ⟨m + 1, by omega, by go_num, HB, HX'⟩
            case measure => simp [intOf]; omega
        · have hmn : m = n := by omega
          have HX' : Hid (OwnInts w.heap.size wr w.heap.size n2 (partly S S2 n (k + 1) 0)) := HX.out.congr (fun j => by rw [← partly_done, hmn])
          clear HX hmn
          go_wp2
          go_roundw
          case rel => exact ⟨k + 1, by omega, by go_num, HB, HX'⟩
          case measure => simp [intOf]; omega
    · go_wp2
      go_ret
      refine ⟨_, _, rfl, ⟨fun hp => ?_⟩, HB.out⟩
      obtain ⟨b, off, e, hc⟩ := HX.out.at.cells hp
      exact ⟨b, off, e, fun j hj => by rw [hc j hj, partly_all S S2 n k j (by omega)]⟩

theorem zzplaces_any (ao : Option Addr) (n cap : Nat) (S : Nat → ByteArray) (ao2 : Option Addr) (n2 cap2 : Nat) (S2 : Nat → ByteArray) (w : World) (h : StrsAt w ao n S) (h2 : StrsAt w ao2 n2 S2)
    (hn : n ≤ 1024) (hn2 : n2 ≤ 1024) :
    Calls Try.prog 21 #[.slice ao n cap, .slice ao2 n2 cap2] w fun e w' => ∃ ao' cap', e = .returned (.slice ao' n2 cap') ∧ IntsAt w' ao' n2 (fun j => lastIdx S (S2 j) n) ∧ Below w.heap.size w w' := by
  have HS : Hid (StrsAt w ao n S) := h
  have HS2 : Hid (StrsAt w ao2 n2 S2) := h2
  clear h h2
  go_enter Try.func21, Try.ntmps21
  go_wp2_with (go_at_call 25; refine (places_any ao n cap S ao2 n2 cap2 S2 _ HS.out HS2.out hn hn2).mono ?_; rintro e w' ⟨ao', cap', rfl, hi, hb⟩)
  go_ret
  exact ⟨_, _, rfl, hi, hb⟩

end Go.Proofs.Qxb6604601a

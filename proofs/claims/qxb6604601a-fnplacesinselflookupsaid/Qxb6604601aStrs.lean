/-
  The callees of the two laws on placesIn: each by a contract. A slice of strings is told by a function S of the index.
-/
import Derived.Test.Qxb6604601aRows
import Derived.WalkKit
import Derived.WalkSpells
import Derived.BigQuiet
import Derived.Deep.QuietTactic
namespace Go.Proofs.Qxb6604601a
open Go.RowKit

/-- A slice of n strings at ao: string k is S k. -/
structure StrsAt (w : World) (ao : Option Addr) (n : Nat) (S : Nat → ByteArray) : Prop where
  cells : 0 < n → ∃ b off, ao = some ⟨b, off, none⟩ ∧ ∀ k, k < n → w.cell? ⟨b, off + k, none⟩ = some (.string (S k))

theorem StrsAt.mono {w w' : World} {ao : Option Addr} {n : Nat} {S : Nat → ByteArray} (h : StrsAt w ao n S) (hb : Below w.heap.size w w') : StrsAt w' ao n S := by
  refine ⟨fun hn => ?_⟩
  obtain ⟨b, off, e, hc⟩ := h.cells hn
  refine ⟨b, off, e, fun k hk => ?_⟩
  have hlt : b < w.heap.size := World.block_lt_of_cell? w ⟨b, off + k, none⟩ (hc k hk)
  exact (hb.cell (p := ⟨b, off + k, none⟩) hlt).trans (hc k hk)

/-- Some bool is returned. -/
def IsBool (e : Ending) : Prop := ∃ t : Bool, e = .returned (.bool t)
theorem IsBool.mk (t : Bool) : IsBool (.returned (.bool t)) := ⟨t, rfl⟩

/-- zzStrBytes: it returns some number. -/
theorem strBytes_any (ao : Option Addr) (n cap : Nat) (S : Nat → ByteArray) (w : World) (h : StrsAt w ao n S) (hn : n ≤ 9223372036854775807) :
    Calls Try.prog 19 #[.slice ao n cap] w fun e w' => (∃ z : Int, e = .returned (.int .i64 z)) ∧ w' = w := by
  have HS : Hid (StrsAt w ao n S) := h
  clear h
  go_enter Try.func19, Try.ntmps19
  go_wp2
  go_loop [3, 4] (fun t i => ∃ (k : Nat) (z : Int), k ≤ n ∧ i = .int .i64 k ∧ t = .int .i64 z) (fun _ i => n - (intOf i).toNat)
  case atStart => exact ⟨0, 0, Nat.zero_le _, rfl, rfl⟩
  case round =>
    obtain ⟨k, z, hk, rfl, rfl⟩ := hrel
    by_cases hlt : k < n
    · obtain ⟨b, off, rfl, hc⟩ := HS.out.cells (by omega)
      have hck := hc k hlt
      clear hc
      go_wp2
      · go_ret
        exact ⟨⟨_, rfl⟩, rfl⟩
      · go_round
        case rel => exact ⟨k + 1, _, by omega, by go_num, rfl⟩
        case measure => simp [intOf]; omega
    · go_wp2
      go_ret
      exact ⟨⟨_, rfl⟩, rfl⟩

/-- zzBytes_FnPlacesInSelfLookup: it returns some bool. -/
theorem bytesSelf_any (ao : Option Addr) (n cap : Nat) (S : Nat → ByteArray) (w : World) (h : StrsAt w ao n S) (hn : n ≤ 9223372036854775807) :
    Calls Try.prog 22 #[.slice ao n cap] w fun e w' => IsBool e ∧ w' = w := by
  have HS : Hid (StrsAt w ao n S) := h
  clear h
  go_enter Try.func22, Try.ntmps22
  go_wp2
  · go_ret
    exact ⟨IsBool.mk _, rfl⟩
  · go_loop [3, 4] (fun t i => ∃ (k : Nat) (z : Int), k ≤ n ∧ i = .int .i64 k ∧ t = .int .i64 z) (fun _ i => n - (intOf i).toNat)
    case atStart => exact ⟨0, _, Nat.zero_le _, rfl, rfl⟩
    case round =>
      obtain ⟨k, z, hk, rfl, rfl⟩ := hrel
      by_cases hlt : k < n
      · obtain ⟨b, off, rfl, hc⟩ := HS.out.cells (by omega)
        have hck := hc k hlt
        clear hc
        go_wp2
        · go_ret
          exact ⟨IsBool.mk _, rfl⟩
        · go_ret
          exact ⟨IsBool.mk _, rfl⟩
        · go_round
          case rel => exact ⟨k + 1, _, by omega, by go_num, rfl⟩
          case measure => simp [intOf]; omega
      · go_wp2
        go_ret
        exact ⟨IsBool.mk _, rfl⟩

/-- zzBytes_FnPlacesInLastOccurrence: it returns some bool. -/
theorem bytesLast_any (ao : Option Addr) (n cap : Nat) (S : Nat → ByteArray) (ao2 : Option Addr) (n2 cap2 : Nat) (S2 : Nat → ByteArray) (w : World) (h : StrsAt w ao n S) (h2 : StrsAt w ao2 n2 S2)
    (hn : n ≤ 9223372036854775807) (hn2 : n2 ≤ 9223372036854775807) :
    Calls Try.prog 18 #[.slice ao n cap, .slice ao2 n2 cap2] w fun e w' => IsBool e ∧ w' = w := by
  have HS : Hid (StrsAt w ao n S) := h
  have HS2 : Hid (StrsAt w ao2 n2 S2) := h2
  clear h h2
  go_enter Try.func18, Try.ntmps18
  go_wp2
  · go_ret
    exact ⟨IsBool.mk _, rfl⟩
  · go_loop [5, 6] (fun t i => ∃ (k : Nat) (z : Int), k ≤ n ∧ i = .int .i64 k ∧ t = .int .i64 z) (fun _ i => n - (intOf i).toNat)
    case atStart => exact ⟨0, _, Nat.zero_le _, rfl, rfl⟩
    case round =>
      obtain ⟨k, z, hk, rfl, rfl⟩ := hrel
      by_cases hlt : k < n
      · obtain ⟨b, off, rfl, hc⟩ := HS.out.cells (by omega)
        have hck := hc k hlt
        clear hc
        go_wp2
        · go_ret
          exact ⟨IsBool.mk _, rfl⟩
        · go_ret
          exact ⟨IsBool.mk _, rfl⟩
        · go_round
          case rel => exact ⟨k + 1, _, by omega, by go_num, rfl⟩
          case measure => simp [intOf]; omega
      · go_wp2
        · go_ret
          exact ⟨IsBool.mk _, rfl⟩
        · go_ret
          exact ⟨IsBool.mk _, rfl⟩
        · go_loop [5, 7] (fun t i => ∃ (k : Nat) (z : Int), k ≤ n2 ∧ i = .int .i64 k ∧ t = .int .i64 z) (fun _ i => n2 - (intOf i).toNat)
          case atStart => exact ⟨0, _, Nat.zero_le _, rfl, rfl⟩
          case round =>
            obtain ⟨k2, z2, hk2, rfl, rfl⟩ := hrel
            by_cases hlt2 : k2 < n2
            · obtain ⟨b, off, rfl, hc⟩ := HS2.out.cells (by omega)
              have hck := hc k2 hlt2
              clear hc
              go_wp2
              · go_ret
                exact ⟨IsBool.mk _, rfl⟩
              · go_ret
                exact ⟨IsBool.mk _, rfl⟩
              · go_round
                case rel => exact ⟨k2 + 1, _, by omega, by go_num, rfl⟩
                case measure => simp [intOf]; omega
            · go_wp2
              go_ret
              exact ⟨IsBool.mk _, rfl⟩

theorem Try.info9 : (Try.prog.info? 9).map (fun i => (i.zero, i.size, i.bytes)) = some (some (.string ByteArray.empty), 1, 16) := by kernel_rfl
theorem Try.info3 : (Try.prog.info? 3).map (fun i => (i.zero, i.size, i.bytes)) = some (some (.int .i64 0), 1, 8) := by kernel_rfl

/-- A row of the call's own: cell j exists. -/
theorem own_cell {w : World} {base : Nat} {e : TypeId} {g n cap : Nat} {xs : List Value} (h : w.ownsRow base e 1 (.slice (some ⟨g, 0, none⟩) n cap) n xs) {j : Nat} (hj : j < n) : ∃ u, w.cell? ⟨g, j, none⟩ = some u ∧ xs[j]? = some u := by
  have hl := h.1
  have := h.cellAt j (by omega)
  rw [List.getElem?_eq_getElem (by omega)] at this
  exact ⟨_, this, List.getElem?_eq_getElem (by omega)⟩

set_option maxHeartbeats 400000 in
/-- zzCloneStrings: a slice of the same strings, nothing that was there written. -/
theorem clone_any (ao : Option Addr) (n cap : Nat) (S : Nat → ByteArray) (w : World) (h : StrsAt w ao n S) (hn : n ≤ 1024) :
    Calls Try.prog 20 #[.slice ao n cap] w fun e w' => ∃ ao' cap', e = .returned (.slice ao' n cap') ∧ StrsAt w' ao' n S ∧ Below w.heap.size w w' := by
  have HS : Hid (StrsAt w ao n S) := h
  clear h
  obtain ⟨i0, hi, hz0, hz1, hz2⟩ := info_parts Try.info9
  have q41 : ∀ (w : World) (a : Option Addr) (n c n' c' : Nat), (binOp .eql 41 (.slice a n c) (.slice none n' c')).run Try.prog w = .ok (.bool a.isNone) w := fun w a n c n' c' => Lib.run_eql_slice_nil w _ _ a n c n' c' Try.underlying41
  cases ao with
  | none =>
    have h0 : n = 0 := by
      rcases Nat.eq_zero_or_pos n with h | h
      · exact h
      · obtain ⟨_, _, e, _⟩ := HS.out.cells h
        simp at e
    subst h0
    go_enter Try.func20, Try.ntmps20
    go_wp2
    go_ret
    exact ⟨_, _, rfl, HS.out, Below.refl _ _⟩
  | some a =>
    go_enter Try.func20, Try.ntmps20
    go_wp2_with (at_make; refine wpList_make_full _ rfl _ _ 41 rfl w.heap.size 9 i0 (.string ByteArray.empty) 1 Try.underlying41 hi hz0 hz1 _ _ _ _ n rfl rfl rfl rfl (by rw [hz2]; omega) (by unfold maxLen; omega) (Nat.le_refl _) ?_; intro w1 hown1 hgrow1)
    have hb1 : Hid (Below w.heap.size w w1) := (Below.refl _ _).grown hgrow1 (Nat.le_refl _) (fun k hk => by simp at hk)
    have hx1 : Hid (∃ xs, w1.ownsRow w.heap.size 9 1 (.slice (some ⟨w.heap.size, 0, none⟩) n n) n xs ∧ ∀ j, j < 0 → xs[j]? = some (.string (S j))) := ⟨_, hown1, fun j hj => by omega⟩
    clear hown1 hgrow1
    go_loopw [4] (fun i wr => ∃ k : Nat, k ≤ n ∧ i = .int .i64 k ∧ Hid (Below w.heap.size w wr) ∧ Hid (∃ xs, wr.ownsRow w.heap.size 9 1 (.slice (some ⟨w.heap.size, 0, none⟩) n n) n xs ∧ ∀ j, j < k → xs[j]? = some (.string (S j))))
      (fun i _ => n - (intOf i).toNat)
    case atStart => exact ⟨0, Nat.zero_le _, rfl, hb1, hx1⟩
    case round =>
      clear hb1 hx1
      obtain ⟨k, hk, rfl, HB, HX⟩ := hrel
      by_cases hlt : k < n
      · obtain ⟨b, off, e, hc⟩ := HS.out.cells (by omega)
        obtain rfl := Option.some.inj e
        have hck : wr.cell? ⟨b, off + k, none⟩ = some (.string (S k)) := (HB.out.cell (p := ⟨b, off + k, none⟩) (World.block_lt_of_cell? w ⟨b, off + k, none⟩ (hc k hlt))).trans (hc k hlt)
        obtain ⟨xs, hown, hxs⟩ := HX.out
        obtain ⟨u, hcu, hxu⟩ := own_cell hown hlt
        have hfu := hown.frozenAt k
        have hst := hown.stored k (.string (S k))
        have HB' : Hid (Below w.heap.size w (wr.setCell ⟨w.heap.size, k, none⟩ (.string (S k)))) := HB.out.setCell (Nat.le_refl _) _
        have HX' : Hid (∃ xs, (wr.setCell ⟨w.heap.size, k, none⟩ (.string (S k))).ownsRow w.heap.size 9 1 (.slice (some ⟨w.heap.size, 0, none⟩) n n) n xs ∧ ∀ j, j < k + 1 → xs[j]? = some (.string (S j))) := by
          refine ⟨_, hst.1, fun j hj => ?_⟩
          have hl := hown.1
          rw [List.getElem?_set]
          by_cases hjk : k = j
          · subst hjk; rw [if_pos rfl, if_pos (by omega)]
          · rw [if_neg hjk]; exact hxs j (by omega)
        clear hc hown hxs hst HB HX hxu
        go_wp2
        go_roundw
        case rel => exact ⟨k + 1, by omega, by go_num, HB', HX'⟩
        case measure => simp [intOf]; omega
      · go_wp2
        go_ret
        obtain ⟨xs, hown, hxs⟩ := HX.out
        refine ⟨_, _, rfl, ⟨fun _ => ⟨w.heap.size, 0, rfl, fun j hj => ?_⟩⟩, HB.out⟩
        rw [Nat.zero_add, hown.cellAt j (by omega)]
        exact hxs j (by omega)

end Go.Proofs.Qxb6604601a

/-
  FnWordSumAddListExactBoundedOrderFree: the law's walk.
-/
import Derived.Test.Qxb6604601aPairs
import Derived.Test.Qxb6604601aListMath
import Derived.Test.Qxb6604601aLimb
import Derived.Deep.CutRange
namespace Go.Proofs.Qxb6604601a
open Go.RowKit

/-- Block g holds an array of three words. -/
def Arr3 (w : World) (g : Nat) (x0 x1 x2 : Int) : Prop := w.heap[g]? = some (.cells #[.int .u64 x0, .int .u64 x1, .int .u64 x2] 23 (0, 0))
/-- Block g holds an array of six words. -/
def Arr6 (w : World) (g : Nat) (x0 x1 x2 x3 x4 x5 : Int) : Prop := w.heap[g]? = some (.cells #[.int .u64 x0, .int .u64 x1, .int .u64 x2, .int .u64 x3, .int .u64 x4, .int .u64 x5] 25 (0, 0))

theorem lt_of_heap {w : World} {g : Nat} {o : Obj} (h : w.heap[g]? = some o) : g < w.heap.size := by
  rcases Nat.lt_or_ge g w.heap.size with h' | h'
  · exact h'
  · simp [Array.getElem?_eq_none h'] at h

theorem Arr3.cells {w : World} {g : Nat} {x0 x1 x2 : Int} (h : Arr3 w g x0 x1 x2) :
    w.cell? ⟨g, 0, none⟩ = some (.int .u64 x0) ∧ w.cell? ⟨g, 1, none⟩ = some (.int .u64 x1) ∧ w.cell? ⟨g, 2, none⟩ = some (.int .u64 x2) ∧ w.frozen? ⟨g, 0, none⟩ = false ∧ w.frozen? ⟨g, 1, none⟩ = false ∧ w.frozen? ⟨g, 2, none⟩ = false ∧ g < w.heap.size :=
  ⟨cell_of_row w g 0 _ 23 (0, 0) h, cell_of_row w g 1 _ 23 (0, 0) h, cell_of_row w g 2 _ 23 (0, 0) h, frozen_of_row w g 0 _ 23 h, frozen_of_row w g 1 _ 23 h, frozen_of_row w g 2 _ 23 h, lt_of_heap h⟩
theorem Arr3.below {w w' : World} {g : Nat} {x0 x1 x2 : Int} (h : Arr3 w g x0 x1 x2) (hb : Below w.heap.size w w') : Arr3 w' g x0 x1 x2 := by
  unfold Arr3
  rw [hb.block g (lt_of_heap h)]
  exact h
theorem Arr3.drew {w : World} {g : Nat} {x0 x1 x2 : Int} (h : Arr3 w g x0 x1 x2) : Arr3 w.drew g x0 x1 x2 := h
theorem Arr6.drew {w : World} {g : Nat} {x0 x1 x2 x3 x4 x5 : Int} (h : Arr6 w g x0 x1 x2 x3 x4 x5) : Arr6 w.drew g x0 x1 x2 x3 x4 x5 := h
theorem Arr6.below {w w' : World} {g : Nat} {x0 x1 x2 x3 x4 x5 : Int} (h : Arr6 w g x0 x1 x2 x3 x4 x5) (hb : Below w.heap.size w w') : Arr6 w' g x0 x1 x2 x3 x4 x5 := by
  unfold Arr6
  rw [hb.block g (lt_of_heap h)]
  exact h
theorem Arr3.set {w : World} {g : Nat} {x0 x1 x2 : Int} (h : Arr3 w g x0 x1 x2) (y0 y1 y2 : Int) :
    Arr3 (((w.setCell ⟨g, 0, none⟩ (.int .u64 y0)).setCell ⟨g, 1, none⟩ (.int .u64 y1)).setCell ⟨g, 2, none⟩ (.int .u64 y2)) g y0 y1 y2 := by
  have h1 := heap_setCell_same w g 0 _ 23 (.int .u64 y0) h
  have h2 := heap_setCell_same _ g 1 _ 23 (.int .u64 y1) h1
  exact heap_setCell_same _ g 2 _ 23 (.int .u64 y2) h2

/-- Three new blocks leave an old cell. -/
theorem cell3 {w : World} (b : Nat) (hb : b < w.heap.size) (x y z : Obj) (o : Nat) : (((w.alloc x).alloc y).alloc z).cell? ⟨b, o, none⟩ = w.cell? ⟨b, o, none⟩ := by
  rw [World.cell?_alloc_past z b o (by simp; omega), World.cell?_alloc_past y b o (by simp; omega), World.cell?_alloc_past x b o hb]
theorem frozen3 {w : World} (b : Nat) (hb : b < w.heap.size) (x y z : Obj) (o : Nat) : (((w.alloc x).alloc y).alloc z).frozen? ⟨b, o, none⟩ = w.frozen? ⟨b, o, none⟩ := by
  rw [World.frozen?_alloc_old _ z ⟨b, o, none⟩ (by simp; omega), World.frozen?_alloc_old _ y ⟨b, o, none⟩ (by simp; omega), World.frozen?_alloc_old _ x ⟨b, o, none⟩ (by simp; omega)]

theorem Arr6.cells {w : World} {g : Nat} {x0 x1 x2 x3 x4 x5 : Int} (h : Arr6 w g x0 x1 x2 x3 x4 x5) :
    (w.cell? ⟨g, 0, none⟩ = some (.int .u64 x0) ∧ w.cell? ⟨g, 1, none⟩ = some (.int .u64 x1) ∧ w.cell? ⟨g, 2, none⟩ = some (.int .u64 x2) ∧ w.cell? ⟨g, 3, none⟩ = some (.int .u64 x3) ∧ w.cell? ⟨g, 4, none⟩ = some (.int .u64 x4) ∧ w.cell? ⟨g, 5, none⟩ = some (.int .u64 x5)) ∧
    (w.frozen? ⟨g, 0, none⟩ = false ∧ w.frozen? ⟨g, 1, none⟩ = false ∧ w.frozen? ⟨g, 2, none⟩ = false ∧ w.frozen? ⟨g, 3, none⟩ = false ∧ w.frozen? ⟨g, 4, none⟩ = false ∧ w.frozen? ⟨g, 5, none⟩ = false) ∧ g < w.heap.size :=
  ⟨⟨cell_of_row w g 0 _ 25 (0, 0) h, cell_of_row w g 1 _ 25 (0, 0) h, cell_of_row w g 2 _ 25 (0, 0) h, cell_of_row w g 3 _ 25 (0, 0) h, cell_of_row w g 4 _ 25 (0, 0) h, cell_of_row w g 5 _ 25 (0, 0) h⟩,
    ⟨frozen_of_row w g 0 _ 25 h, frozen_of_row w g 1 _ 25 h, frozen_of_row w g 2 _ 25 h, frozen_of_row w g 3 _ 25 h, frozen_of_row w g 4 _ 25 h, frozen_of_row w g 5 _ 25 h⟩, lt_of_heap h⟩
theorem Arr6.set {w : World} {g : Nat} {x0 x1 x2 x3 x4 x5 : Int} (h : Arr6 w g x0 x1 x2 x3 x4 x5) (y0 y1 y2 y3 y4 y5 : Int) :
    Arr6 ((((((w.setCell ⟨g, 0, none⟩ (.int .u64 y0)).setCell ⟨g, 1, none⟩ (.int .u64 y1)).setCell ⟨g, 2, none⟩ (.int .u64 y2)).setCell ⟨g, 3, none⟩ (.int .u64 y3)).setCell ⟨g, 4, none⟩ (.int .u64 y4)).setCell ⟨g, 5, none⟩ (.int .u64 y5)) g y0 y1 y2 y3 y4 y5 := by
  have h1 := heap_setCell_same w g 0 _ 25 (.int .u64 y0) h
  have h2 := heap_setCell_same _ g 1 _ 25 (.int .u64 y1) h1
  have h3 := heap_setCell_same _ g 2 _ 25 (.int .u64 y2) h2
  have h4 := heap_setCell_same _ g 3 _ 25 (.int .u64 y3) h3
  have h5 := heap_setCell_same _ g 4 _ 25 (.int .u64 y4) h4
  exact heap_setCell_same _ g 5 _ 25 (.int .u64 y5) h5
theorem below3 (w : World) (x y z : Obj) : Below w.heap.size w (((w.alloc x).alloc y).alloc z) := by go_grown
theorem Arr3.set3 {w : World} {g : Nat} {x0 x1 x2 : Int} (h : Arr3 w g x0 x1 x2) (x y z : Obj) (y0 y1 y2 : Int) :
    Arr3 ((((((w.alloc x).alloc y).alloc z).setCell ⟨g, 0, none⟩ (.int .u64 y0)).setCell ⟨g, 1, none⟩ (.int .u64 y1)).setCell ⟨g, 2, none⟩ (.int .u64 y2)) g y0 y1 y2 :=
  (h.below (below3 w x y z)).set y0 y1 y2
theorem below3_set {B : Nat} {w0 w : World} (h : Below B w0 w) (g : Nat) (hg : B ≤ g) (hB : B ≤ w.heap.size) (x y z : Obj) (u0 u1 u2 : Value) :
    Below B w0 ((((((w.alloc x).alloc y).alloc z).setCell ⟨g, 0, none⟩ u0).setCell ⟨g, 1, none⟩ u1).setCell ⟨g, 2, none⟩ u2) :=
  (((h.trans ((below3 w x y z).mono hB)).setCell hg _).setCell hg _).setCell hg _

/-- The limbs of one number lie in a new block. -/
def LimbsAt (w : World) (x0 x1 x2 x3 : Int) (s : Value) (wx : World) : Prop := ∃ g' : Nat, s = .pointer (some ⟨g', 0, none⟩) ∧ w.heap.size ≤ g' ∧ Arr6 wx g' x0 x1 x2 x3 0 0 ∧ Below w.heap.size w wx
theorem LimbsAt.late (w : World) (x0 x1 x2 x3 : Int) (a b c : Obj) :
    LimbsAt w x0 x1 x2 x3 (.pointer (some ⟨w.heap.size + 1 + 1 + 1, 0, none⟩)) ((((w.alloc a).alloc b).alloc c).alloc (.cells #[.int .u64 x0, .int .u64 x1, .int .u64 x2, .int .u64 x3, .int .u64 0, .int .u64 0] 25)).drew := by
  refine ⟨_, rfl, by omega, ?_, (((below3 w a b c).alloc (by simp; omega) _)).drew⟩
  have := heap_alloc_new (((w.alloc a).alloc b).alloc c) (.cells #[.int .u64 x0, .int .u64 x1, .int .u64 x2, .int .u64 x3, .int .u64 0, .int .u64 0] 25)
  simp only [World.size_alloc] at this
  exact this
theorem LimbsAt.early (w : World) (x0 x1 x2 x3 : Int) (a b c : Obj) :
    LimbsAt w x0 x1 x2 x3 (.pointer (some ⟨w.heap.size, 0, none⟩)) ((((w.alloc (.cells #[.int .u64 x0, .int .u64 x1, .int .u64 x2, .int .u64 x3, .int .u64 0, .int .u64 0] 25)).alloc a).alloc b).alloc c).drew := by
  refine ⟨_, rfl, Nat.le_refl _, ?_, (((Below.refl _ _).alloc (Nat.le_refl _) _).trans ((below3 _ a b c).mono (by simp))).drew⟩
  have h : Arr6 (w.alloc (.cells #[.int .u64 x0, .int .u64 x1, .int .u64 x2, .int .u64 x3, .int .u64 0, .int .u64 0] 25)) w.heap.size x0 x1 x2 x3 0 0 := heap_alloc_new w _
  exact (h.below (below3 _ a b c)).drew

theorem below6_set {B : Nat} {w0 w : World} (h : Below B w0 w) (g : Nat) (hg : B ≤ g) (u0 u1 u2 u3 u4 u5 : Value) :
    Below B w0 ((((((w.setCell ⟨g, 0, none⟩ u0).setCell ⟨g, 1, none⟩ u1).setCell ⟨g, 2, none⟩ u2).setCell ⟨g, 3, none⟩ u3).setCell ⟨g, 4, none⟩ u4).setCell ⟨g, 5, none⟩ u5) :=
  (((((h.setCell hg _).setCell hg _).setCell hg _).setCell hg _).setCell hg _).setCell hg _

theorem norm_below (l0 l1 l2 l3 l4 l5 k1 k2 k3 k4 k5 n0 n1 n2 n3 n4 n5 : Int) (b0 : Small l0) (b1 : Small l1) (b2 : Small l2) (b3 : Small l3) (b4 : Small l4) (b5 : Small l5)
    (e1 : Hid (l0 / 4294967296 = k1)) (e2 : Hid ((l1 + k1) / 4294967296 = k2)) (e3 : Hid ((l2 + k2) / 4294967296 = k3)) (e4 : Hid ((l3 + k3) / 4294967296 = k4)) (e5 : Hid ((l4 + k4) / 4294967296 = k5))
    (f0 : Hid (l0 % 4294967296 = n0)) (f1 : Hid ((l1 + k1) % 4294967296 = n1)) (f2 : Hid ((l2 + k2) % 4294967296 = n2)) (f3 : Hid ((l3 + k3) % 4294967296 = n3)) (f4 : Hid ((l4 + k4) % 4294967296 = n4)) (f5 : Hid ((l5 + k5) % 4294967296 = n5)) (w : World) :
    Calls Try.prog 12 #[.agg #[.int .u64 l0, .int .u64 l1, .int .u64 l2, .int .u64 l3, .int .u64 l4, .int .u64 l5]] w fun e w' =>
      e = .returned (.agg #[.int .u64 n0, .int .u64 n1, .int .u64 n2, .int .u64 n3, .int .u64 n4, .int .u64 n5]) ∧ Below w.heap.size w w' := by
  refine (norm_named l0 l1 l2 l3 l4 l5 k1 k2 k3 k4 k5 n0 n1 n2 n3 n4 n5 b0 b1 b2 b3 b4 b5 e1 e2 e3 e4 e5 f0 f1 f2 f3 f4 f5 w).mono ?_
  rintro e w' ⟨rfl, c1, c2, rfl⟩
  exact ⟨rfl, by go_grown⟩
theorem join_below (l0 l1 l2 l3 l4 l5 : Int) (b0 : Limb l0) (b1 : Limb l1) (b2 : Limb l2) (b3 : Limb l3) (b4 : Limb l4) (b5 : Limb l5) (w : World) :
    Calls Try.prog 11 #[.agg #[.int .u64 l0, .int .u64 l1, .int .u64 l2, .int .u64 l3, .int .u64 l4, .int .u64 l5]] w fun e w' =>
      e = .returned (.agg #[.int .u64 (l0 + l1 * 4294967296), .int .u64 (l2 + l3 * 4294967296), .int .u64 (l4 + l5 * 4294967296)]) ∧ Below w.heap.size w w' := by
  refine (join_any l0 l1 l2 l3 l4 l5 b0 b1 b2 b3 b4 b5 w).mono ?_
  rintro e w' ⟨rfl, c1, c2, c3, rfl⟩
  exact ⟨rfl, by go_grown⟩

set_option maxHeartbeats 4000000 in
theorem list_walk (ao : Option Addr) (n cap : Nat) (H L : Nat → Int) (w : World) (h : PairsAt w ao n H L) (hH : ∀ j, j < n → Word (H j)) (hL : ∀ j, j < n → Word (L j)) (hn : n ≤ 9223372036854775807) :
    Calls Try.prog 4 #[.slice ao n cap] w fun e w' => e = .returned (.bool true) ∧ Below w.heap.size w w' := by
  have HP : Hid (PairsAt w ao n H L) := h
  have WH : Hid (∀ j, j < n → Word (H j)) := hH
  have WL : Hid (∀ j, j < n → Word (L j)) := hL
  clear h hH hL
  go_enter Try.func4, Try.ntmps4
  go_wp2_with fail
  refine (bytesList_any ao n cap w hn).mono ?_
  rintro e w' ⟨⟨t, rfl⟩, hw⟩
  obtain rfl : w = w' := hw.symm
  clear hw
  cases t with
  | false =>
    go_wp2
    go_ret
    exact ⟨rfl, Below.refl _ _⟩
  | true =>
    by_cases g1 : 4096 < n
    · have g1' : (4096 : Int) < n := by omega
      go_wp2
      go_ret
      exact ⟨rfl, Below.refl _ _⟩
    have g1d : decide ((4096 : Int) < n) = false := by simp; omega
    go_wp2_with fail
    refine (clonePairs_any ao n cap H L w HP.out (by omega)).mono ?_
    rintro e wz ⟨ao2, cap2, rfl, hp2, hb⟩
    have HPc : Hid (PairsAt wz ao2 n H L) := hp2
    have HBc : Hid (Below w.heap.size w wz) := hb
    clear HP hp2 hb
    go_wp2
    have hs1 : Hid (Below wz.heap.size wz (wz.alloc (.cells #[.int .u64 0, .int .u64 0, .int .u64 0] 23))) := (Below.refl _ _).alloc (Nat.le_refl _) _
    have hs2 : Hid (Arr3 (wz.alloc (.cells #[.int .u64 0, .int .u64 0, .int .u64 0] 23)) wz.heap.size (word0 (tot H L 0)) (word1 (tot H L 0)) (word2 (tot H L 0))) := heap_alloc_new wz _
    go_loopw [4] (fun i wr => ∃ k : Nat, k ≤ n ∧ i = .int .i64 k ∧ Hid (Below wz.heap.size wz wr) ∧ Hid (Arr3 wr wz.heap.size (word0 (tot H L k)) (word1 (tot H L k)) (word2 (tot H L k))))
      (fun i _ => n - (intOf i).toNat)
    case atStart => exact ⟨0, Nat.zero_le _, rfl, hs1, hs2⟩
    case round =>
      clear hs1 hs2
      obtain ⟨k, hk, rfl, HB, HX⟩ := hrel
      by_cases hlt : k < n
      · obtain ⟨b, off, rfl, hc⟩ := (HPc.out.mono HB.out).cells (by omega)
        obtain ⟨ck, ck'⟩ := hc k hlt
        have hbb : b < wr.heap.size := World.block_lt_of_cell? wr ⟨b, off + k * 2, none⟩ ck
        obtain ⟨c0, c1, c2, f0, f1, f2, gl⟩ := HX.out.cells
        have wh := WH.out k hlt
        have wl := WL.out k hlt
        have t0 := add_word0 (tot H L k) (H k) (L k)
        have t1 := add_word1 (tot H L k) (H k) (L k)
        have t2 := add_word2 (tot H L k) (H k) (L k)
        rw [← tot_succ] at t0 t1 t2
        have W0 := word0_word (tot H L k)
        have W1 := word1_word (tot H L k)
        clear hc
        have HX' : Hid (∀ (x y z : Obj) (y0 y1 y2 : Int), Arr3 ((((((wr.alloc x).alloc y).alloc z).setCell ⟨wz.heap.size, 0, none⟩ (.int .u64 y0)).setCell ⟨wz.heap.size, 1, none⟩ (.int .u64 y1)).setCell ⟨wz.heap.size, 2, none⟩ (.int .u64 y2)) wz.heap.size y0 y1 y2) := HX.out.set3
        have HB' : Hid (∀ (x y z : Obj) (u0 u1 u2 : Value), Below wz.heap.size wz ((((((wr.alloc x).alloc y).alloc z).setCell ⟨wz.heap.size, 0, none⟩ u0).setCell ⟨wz.heap.size, 1, none⟩ u1).setCell ⟨wz.heap.size, 2, none⟩ u2)) := below3_set HB.out _ (Nat.le_refl _) (Nat.le_of_lt gl)
        clear HX HB
        generalize word0 (tot H L k) = u0 at *
        generalize word1 (tot H L k) = u1 at *
        generalize word2 (tot H L k) = u2 at *
        have k1 := cell3 wz.heap.size gl
        have k3 := frozen3 wz.heap.size gl
        go_wp2
        go_region_with (go_at_call 9; refine (zzadd_any u0 u1 u2 (H k) (L k) W0 W1 wh wl _).mono ?_; rintro e w' ⟨rfl, z1, z2, z3, rfl⟩)
        all_goals
          go_wp2
          go_roundw
          case rel => exact ⟨k + 1, by omega, by go_num, (HB'.out _ _ _ _ _ _).drew.drew.drew.drew, (HX'.out _ _ _ _ _ _).drew.drew.drew.drew⟩
          case measure => simp [intOf]; omega
      · have hkn : k = n := by omega
        rw [hkn] at HX
        clear hkn
        have HB1 : Hid (Below w.heap.size w wr) := HBc.out.trans (HB.out.mono HBc.out.size)
        have HP1 : Hid (PairsAt wr ao2 n H L) := HPc.out.mono HB.out
        have HF1 := HX
        clear HX HB HPc HBc
        go_wp2
        generalize wr = w5 at *
        have hs1 : Hid (Below w5.heap.size w5 (w5.alloc (.cells #[.int .u64 0, .int .u64 0, .int .u64 0] 23))) := (Below.refl _ _).alloc (Nat.le_refl _) _
        have hs2 : Hid (Arr3 (w5.alloc (.cells #[.int .u64 0, .int .u64 0, .int .u64 0] 23)) w5.heap.size (word0 (tot H L n - tot H L n)) (word1 (tot H L n - tot H L n)) (word2 (tot H L n - tot H L n))) := by
          rw [Int.sub_self]; exact heap_alloc_new w5 _
        go_loopw [6] (fun i wr => ∃ m : Nat, m ≤ n ∧ i = .int .i64 ((m : Int) - 1) ∧ Hid (Below w5.heap.size w5 wr) ∧ Hid (Arr3 wr w5.heap.size (word0 (tot H L n - tot H L m)) (word1 (tot H L n - tot H L m)) (word2 (tot H L n - tot H L m))))
          (fun i _ => (intOf i + 1).toNat)
        case atStart => exact ⟨n, Nat.le_refl _, rfl, hs1, hs2⟩
        case round =>
          clear hs1 hs2
          obtain ⟨m, hm, rfl, HB, HX⟩ := hrel
          cases m with
          | succ m =>
            rw [show ((m + 1 : Nat) : Int) - 1 = (m : Int) from by omega]
            obtain ⟨b, off, rfl, hc⟩ := (HP1.out.mono HB.out).cells (by omega)
            obtain ⟨ck, ck'⟩ := hc m (by omega)
            obtain ⟨c0, c1, c2, f0, f1, f2, gl⟩ := HX.out.cells
            have wh := WH.out m (by omega)
            have wl := WL.out m (by omega)
            have t0 := add_word0 (tot H L n - tot H L (m + 1)) (H m) (L m)
            have t1 := add_word1 (tot H L n - tot H L (m + 1)) (H m) (L m)
            have t2 := add_word2 (tot H L n - tot H L (m + 1)) (H m) (L m)
            rw [← tot_back] at t0 t1 t2
            have W0 := word0_word (tot H L n - tot H L (m + 1))
            have W1 := word1_word (tot H L n - tot H L (m + 1))
            clear hc
            have HX' : Hid (∀ (x y z : Obj) (y0 y1 y2 : Int), Arr3 ((((((wr.alloc x).alloc y).alloc z).setCell ⟨w5.heap.size, 0, none⟩ (.int .u64 y0)).setCell ⟨w5.heap.size, 1, none⟩ (.int .u64 y1)).setCell ⟨w5.heap.size, 2, none⟩ (.int .u64 y2)) w5.heap.size y0 y1 y2) := HX.out.set3
            have HB' : Hid (∀ (x y z : Obj) (u0 u1 u2 : Value), Below w5.heap.size w5 ((((((wr.alloc x).alloc y).alloc z).setCell ⟨w5.heap.size, 0, none⟩ u0).setCell ⟨w5.heap.size, 1, none⟩ u1).setCell ⟨w5.heap.size, 2, none⟩ u2)) := below3_set HB.out _ (Nat.le_refl _) (Nat.le_of_lt gl)
            clear HX HB
            generalize word0 (tot H L n - tot H L (m + 1)) = u0 at *
            generalize word1 (tot H L n - tot H L (m + 1)) = u1 at *
            generalize word2 (tot H L n - tot H L (m + 1)) = u2 at *
            have k1 := cell3 w5.heap.size gl
            have k3 := frozen3 w5.heap.size gl
            go_wp2
            go_region_with (go_at_call 9; refine (zzadd_any u0 u1 u2 (H m) (L m) W0 W1 wh wl _).mono ?_; rintro e w' ⟨rfl, z1, z2, z3, rfl⟩)
            all_goals
              go_wp2
              go_roundw
              case rel => exact ⟨m, by omega, rfl, (HB'.out _ _ _ _ _ _).drew.drew.drew.drew, (HX'.out _ _ _ _ _ _).drew.drew.drew.drew⟩
              case measure => simp [intOf]
          | zero =>
            have HB2 : Hid (Below w.heap.size w wr) := HB1.out.trans (HB.out.mono HB1.out.size)
            have HP2 : Hid (PairsAt wr ao2 n H L) := HP1.out.mono HB.out
            have HF2 : Hid (Arr3 wr wz.heap.size (word0 (tot H L n)) (word1 (tot H L n)) (word2 (tot H L n))) := HF1.out.below HB.out
            have HR2 : Hid (Arr3 wr w5.heap.size (word0 (tot H L n)) (word1 (tot H L n)) (word2 (tot H L n))) := by
              have := HX.out
              rw [tot_zero, Int.sub_zero] at this
              exact this
            clear HX HB HB1 HP1 HF1
            go_wp2
            generalize wr = w6 at *
            have hs1 : Hid (Below w6.heap.size w6 (w6.alloc (.cells #[.int .u64 0, .int .u64 0, .int .u64 0, .int .u64 0, .int .u64 0, .int .u64 0] 25))) := (Below.refl _ _).alloc (Nat.le_refl _) _
            have hs2 : Hid (Arr6 (w6.alloc (.cells #[.int .u64 0, .int .u64 0, .int .u64 0, .int .u64 0, .int .u64 0, .int .u64 0] 25)) w6.heap.size (col0 L 0) (col1 L 0) (col0 H 0) (col1 H 0) 0 0) := heap_alloc_new w6 _
            go_loopw [8] (fun i wr => ∃ j : Nat, j ≤ n ∧ i = .int .i64 j ∧ Hid (Below w6.heap.size w6 wr) ∧ Hid (Arr6 wr w6.heap.size (col0 L j) (col1 L j) (col0 H j) (col1 H j) 0 0))
              (fun i _ => n - (intOf i).toNat)
            case atStart => exact ⟨0, Nat.zero_le _, rfl, hs1, hs2⟩
            case round =>
              clear hs1 hs2
              obtain ⟨j, hj, rfl, HB, HX⟩ := hrel
              by_cases hlt : j < n
              · obtain ⟨b, off, rfl, hc⟩ := (HP2.out.mono HB.out).cells (by omega)
                obtain ⟨ck, ck'⟩ := hc j hlt
                have gl := lt_of_heap HX.out
                have hbb : b < wr.heap.size := World.block_lt_of_cell? wr ⟨b, off + j * 2, none⟩ ck
                have wh := WH.out j hlt
                have wl := WL.out j hlt
                obtain ⟨x0, e0, b0⟩ : ∃ a, L j % 4294967296 = a ∧ Limb a := ⟨_, rfl, limb_mod _⟩
                obtain ⟨x1, e1, b1⟩ : ∃ a, L j / 4294967296 = a ∧ Limb a := ⟨_, rfl, limb_div wl⟩
                obtain ⟨x2, e2, b2⟩ : ∃ a, H j % 4294967296 = a ∧ Limb a := ⟨_, rfl, limb_mod _⟩
                obtain ⟨x3, e3, b3⟩ : ∃ a, H j / 4294967296 = a ∧ Limb a := ⟨_, rfl, limb_div wh⟩
                have E0 : Hid (L j % 4294967296 = x0) := e0
                have E1 : Hid (L j / 4294967296 = x1) := e1
                have E2 : Hid (H j % 4294967296 = x2) := e2
                have E3 : Hid (H j / 4294967296 = x3) := e3
                clear hc e0 e1 e2 e3
                go_upto_region 20 with fail
                go_cut [9] from 57 to 86 (fun s9 wx => LimbsAt wr x0 x1 x2 x3 s9 wx)
                case first =>
                  go_region_with (go_at_call 10; refine (limbs_named (L j) (H j) 0 x0 x1 x2 x3 0 0 wl wh ⟨by decide, by decide⟩ E0 E1 E2 E3 rfl rfl _).mono ?_; rintro e w' ⟨rfl, z1, z2, z3, rfl⟩)
                  all_goals
                    go_wp2_with fail
                    go_meet
                    case rel => first | exact LimbsAt.late _ _ _ _ _ _ _ _ | exact LimbsAt.early _ _ _ _ _ _ _ _
                case rest =>
                  obtain ⟨g', rfl, hg', HL, HBx⟩ := hcut
                  have HA : Arr6 wc w6.heap.size (col0 L j) (col1 L j) (col0 H j) (col1 H j) 0 0 := HX.out.below HBx
                  have HB7 : Hid (Below w6.heap.size w6 wc) := HB.out.trans (HBx.mono HB.out.size)
                  have s0 := col0_succ L j
                  have s1 := col1_succ L j
                  have s2 := col0_succ H j
                  have s3 := col1_succ H j
                  have d0 := col0_bd L j
                  have d1 := col1_bd L n WL.out j (by omega)
                  have d2 := col0_bd H j
                  have d3 := col1_bd H n WH.out j (by omega)
                  rw [E0.out] at s0
                  rw [E1.out] at s1
                  rw [E2.out] at s2
                  rw [E3.out] at s3
                  generalize col0 L j = A0 at *
                  generalize col1 L j = A1 at *
                  generalize col0 H j = A2 at *
                  generalize col1 H j = A3 at *
                  have S0 : Hid (col0 L (j + 1) = A0 + x0) := s0
                  have S1 : Hid (col1 L (j + 1) = A1 + x1) := s1
                  have S2 : Hid (col0 H (j + 1) = A2 + x2) := s2
                  have S3 : Hid (col1 H (j + 1) = A3 + x3) := s3
                  obtain ⟨⟨c0, c1, c2, c3, c4, c5⟩, ⟨f0, f1, f2, f3, f4, f5⟩, gl7⟩ := HA.cells
                  obtain ⟨⟨l0, l1, l2, l3, l4, l5⟩, _, gl8⟩ := HL.cells
                  obtain ⟨b0, b0'⟩ := b0; obtain ⟨b1, b1'⟩ := b1; obtain ⟨b2, b2'⟩ := b2; obtain ⟨b3, b3'⟩ := b3
                  have HA' : Hid (∀ y0 y1 y2 y3 y4 y5 : Int, Arr6 ((((((wc.setCell ⟨w6.heap.size, 0, none⟩ (.int .u64 y0)).setCell ⟨w6.heap.size, 1, none⟩ (.int .u64 y1)).setCell ⟨w6.heap.size, 2, none⟩ (.int .u64 y2)).setCell ⟨w6.heap.size, 3, none⟩ (.int .u64 y3)).setCell ⟨w6.heap.size, 4, none⟩ (.int .u64 y4)).setCell ⟨w6.heap.size, 5, none⟩ (.int .u64 y5)) w6.heap.size y0 y1 y2 y3 y4 y5) := HA.set
                  have HB8 : Hid (∀ u0 u1 u2 u3 u4 u5 : Value, Below w6.heap.size w6 ((((((wc.setCell ⟨w6.heap.size, 0, none⟩ u0).setCell ⟨w6.heap.size, 1, none⟩ u1).setCell ⟨w6.heap.size, 2, none⟩ u2).setCell ⟨w6.heap.size, 3, none⟩ u3).setCell ⟨w6.heap.size, 4, none⟩ u4).setCell ⟨w6.heap.size, 5, none⟩ u5)) := below6_set HB7.out _ (Nat.le_refl _)
                  clear s0 s1 s2 s3 HA HL HBx HX HB E0 E1 E2 E3 wl wh ck ck' hbb
                  go_wp2
                  refine wp_loop_rounds 7 ?_
                  iterate 6 (rw [rounds_succ]; go_wp2; go_region; go_wp2)
                  rw [rounds_succ]; go_wp2
                  go_roundw
                  case rel => exact ⟨j + 1, by omega, by go_num, (HB8.out _ _ _ _ _ _).drew.drew.drew.drew.drew.drew, by rw [S0.out, S1.out, S2.out, S3.out]; exact (HA'.out _ _ _ _ _ _).drew.drew.drew.drew.drew.drew⟩
                  case measure => simp [intOf]; omega
              · have hjn : j = n := by omega
                rw [hjn] at HX
                clear hjn
                have HB3 : Hid (Below w.heap.size w wr) := HB2.out.trans (HB.out.mono HB2.out.size)
                have HF3 : Hid (Arr3 wr wz.heap.size (word0 (tot H L n)) (word1 (tot H L n)) (word2 (tot H L n))) := HF2.out.below HB.out
                have HR3 : Hid (Arr3 wr w5.heap.size (word0 (tot H L n)) (word1 (tot H L n)) (word2 (tot H L n))) := HR2.out.below HB.out
                have d0 := col0_bd L n
                have d1 := col1_bd L n WL.out n (Nat.le_refl _)
                have d2 := col0_bd H n
                have d3 := col1_bd H n WH.out n (Nat.le_refl _)
                have ht := tot_cols H L n
                have hT : Hid (0 < n → word2 (tot H L n) < n) := top_lt H L n WH.out WL.out
                generalize col0 L n = A0 at *
                generalize col1 L n = A1 at *
                generalize col0 H n = A2 at *
                generalize col1 H n = A3 at *
                obtain ⟨⟨c0, c1, c2, c3, c4, c5⟩, _, gl⟩ := HX.out.cells
                obtain ⟨k1, ek1⟩ : ∃ k, A0 / 4294967296 = k := ⟨_, rfl⟩
                obtain ⟨k2, ek2⟩ : ∃ k, (A1 + k1) / 4294967296 = k := ⟨_, rfl⟩
                obtain ⟨k3, ek3⟩ : ∃ k, (A2 + k2) / 4294967296 = k := ⟨_, rfl⟩
                obtain ⟨k4, ek4⟩ : ∃ k, (A3 + k3) / 4294967296 = k := ⟨_, rfl⟩
                obtain ⟨k5, ek5⟩ : ∃ k, (0 + k4) / 4294967296 = k := ⟨_, rfl⟩
                obtain ⟨n0, en0, bn0⟩ : ∃ n, A0 % 4294967296 = n ∧ Limb n := ⟨_, rfl, limb_mod _⟩
                obtain ⟨n1, en1, bn1⟩ : ∃ n, (A1 + k1) % 4294967296 = n ∧ Limb n := ⟨_, rfl, limb_mod _⟩
                obtain ⟨n2, en2, bn2⟩ : ∃ n, (A2 + k2) % 4294967296 = n ∧ Limb n := ⟨_, rfl, limb_mod _⟩
                obtain ⟨n3, en3, bn3⟩ : ∃ n, (A3 + k3) % 4294967296 = n ∧ Limb n := ⟨_, rfl, limb_mod _⟩
                obtain ⟨n4, en4, bn4⟩ : ∃ n, (0 + k4) % 4294967296 = n ∧ Limb n := ⟨_, rfl, limb_mod _⟩
                obtain ⟨n5, en5, bn5⟩ : ∃ n, (0 + k5) % 4294967296 = n ∧ Limb n := ⟨_, rfl, limb_mod _⟩
                obtain ⟨q0, q1, q2⟩ := words_of_cols (tot H L n) A0 A1 A2 A3 k1 k2 k3 k4 k5 n0 n1 n2 n3 n4 n5 ht ek1 ek2 ek3 ek4 ek5 en0 en1 en2 en3 en4 en5
                rw [q0, q1, q2] at HF3 HR3
                rw [q2] at hT
                have z0 : Small A0 := ⟨by omega, by omega⟩
                have z1 : Small A1 := ⟨by omega, by omega⟩
                have z2 : Small A2 := ⟨by omega, by omega⟩
                have z3 : Small A3 := ⟨by omega, by omega⟩
                have z4 : Small 0 := ⟨by omega, by omega⟩
                have Hk1 : Hid _ := ek1; have Hk2 : Hid _ := ek2; have Hk3 : Hid _ := ek3; have Hk4 : Hid _ := ek4; have Hk5 : Hid _ := ek5
                have Hn0 : Hid _ := en0; have Hn1 : Hid _ := en1; have Hn2 : Hid _ := en2; have Hn3 : Hid _ := en3; have Hn4 : Hid _ := en4; have Hn5 : Hid _ := en5
                have hsame := eql23_same (n0 + n1 * 4294967296) (n2 + n3 * 4294967296) (n4 + n5 * 4294967296)
                clear ek1 ek2 ek3 ek4 ek5 en0 en1 en2 en3 en4 en5 q0 q1 q2 ht d0 d1 d2 d3 HX HB HB2 HF2 HR2 HP2
                go_wp2_with fail
                refine (norm_below A0 A1 A2 A3 0 0 k1 k2 k3 k4 k5 n0 n1 n2 n3 n4 n5 z0 z1 z2 z3 z4 z4 Hk1 Hk2 Hk3 Hk4 Hk5 Hn0 Hn1 Hn2 Hn3 Hn4 Hn5 _).mono ?_
                rintro e w8 ⟨rfl, hb8⟩
                go_wp2_with fail
                refine (join_below n0 n1 n2 n3 n4 n5 bn0 bn1 bn2 bn3 bn4 bn5 _).mono ?_
                rintro e w9 ⟨rfl, hb9⟩
                have hb10 : Below wr.heap.size wr w9 := hb8.trans (hb9.mono hb8.size)
                have HB4 : Hid (Below w.heap.size w w9) := HB3.out.trans (hb10.mono HB3.out.size)
                obtain ⟨p0, p1, p2, _, _, _, pl⟩ := (HF3.out.below hb10).cells
                obtain ⟨r0, r1, r2, _, _, _, rl⟩ := (HR3.out.below hb10).cells
                clear c0 c1 c2 c3 c4 c5 hb8 hb9 hb10 HB3 HF3 HR3 gl Hk1 Hk2 Hk3 Hk4 Hk5 Hn0 Hn1 Hn2 Hn3 Hn4 Hn5
                by_cases hn0 : 0 < n
                · have hd := hT.out hn0
                  have hg : decide ((0 : Int) < n) = true := by simp; omega
                  have hd' : decide ((n : Int) ≤ n4 + n5 * 4294967296) = false := by simp; omega
                  go_wp2
                  go_ret
                  exact ⟨rfl, HB4.out.alloc HB4.out.size _⟩
                · have hg : decide ((0 : Int) < n) = false := by simp; omega
                  go_wp2
                  go_ret
                  exact ⟨rfl, HB4.out.alloc HB4.out.size _⟩

end Go.Proofs.Qxb6604601a

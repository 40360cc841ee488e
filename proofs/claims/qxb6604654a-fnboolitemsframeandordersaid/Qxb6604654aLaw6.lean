/-
  FnBoolItemsFrameAndOrder: the law's walk.
-/
import Derived.Test.Qxb6604654aSimple
namespace Go.Proofs.Qxb6604654a
open Go.RowKit

theorem bytesItems_any (x y : Bool) (ao : Option Addr) (n cap : Nat) (w : World) (hn : n ≤ 9223372036854775807) :
    Calls Try.prog 19 #[.bool x, .bool y, .slice ao n cap] w fun e w' => IsBool e ∧ w' = w := by
  go_enter Try.func19, Try.ntmps19
  go_wp2
  all_goals (go_ret; exact ⟨IsBool.mk _, rfl⟩)

theorem Ext.nilBelow {w w' : World} {v' : Value} {n n' : Nat} (h : Ext w (.slice none 0 0) n w' v' n') : Below w.heap.size w w' :=
  ⟨h.grown.os, h.grown.tape, h.grown.output, h.grown.size, fun k hk => h.grown.block k hk (by simp [Value.ownBlock])⟩

theorem two_at (l : List UInt8) (a b : UInt8) (n : Nat) (h : l.length = n) : byteAt (l ++ [a, b]) n = (a.toNat : Int) ∧ byteAt (l ++ [a, b]) (n + 1) = (b.toNat : Int) := by
  subst h
  simp [byteAt, List.getD]

/-- Where a row of bytes lies, and its first byte. -/
theorem BytesAt.first {w : World} {ao : Option Addr} {n : Nat} {l : List UInt8} (h : BytesAt w ao n l) (hn : 0 < n) : ∃ b off, ao = some ⟨b, off, none⟩ ∧ w.cell? ⟨b, off, none⟩ = some (.int .u8 (byteAt l 0)) := by
  obtain ⟨b, off, e, hc⟩ := h.cells hn
  exact ⟨b, off, e, by simpa using hc 0 hn⟩

set_option maxHeartbeats 1000000 in
theorem law6_walk (x y : Bool) (ao : Option Addr) (n cap : Nat) (l : List UInt8) (w : World) (h : BytesAt w ao n l) (hn : n ≤ 9223372036854775807) :
    Calls Try.prog 6 #[.bool x, .bool y, .slice ao n cap] w fun e w' => e = .returned (.bool true) ∧ Below w.heap.size w w' := by
  have HS : Hid (BytesAt w ao n l) := h
  clear h
  go_enter Try.func6, Try.ntmps6
  go_wp2_with fail
  refine (bytesItems_any x y ao n cap w hn).mono ?_
  rintro e w' ⟨⟨t, rfl⟩, hw⟩
  obtain rfl : w = w' := hw.symm
  clear hw
  cases t with
  | false =>
    go_wp2
    go_ret
    exact ⟨rfl, Below.refl _ _⟩
  | true =>
    by_cases g1 : 1048576 < n
    · have g1' : (1048576 : Int) < n := by omega
      go_wp2
      go_ret
      exact ⟨rfl, Below.refl _ _⟩
    have g1d : decide ((1048576 : Int) < n) = false := by simp; omega
    go_wp2_with fail
    refine (clone_any ao n cap l w HS.out (by omega)).mono ?_
    rintro e w1 ⟨v, rfl, ho, hb, hv⟩
    have hlen := HS.out.len
    obtain ⟨ao1, cap1, rfl, hc1, _⟩ := ho.shape
    have HO : Hid (Own w1 (.slice ao1 l.length cap1) l) := ho
    have HB : Hid (Below w.heap.size w w1) := hb
    have HV : Hid (∀ g, (Value.slice ao1 l.length cap1).ownBlock = some g → w.heap.size ≤ g) := hv
    clear ho hb hv HS
    rw [hlen] at HO HV hc1 ⊢
    go_wp2_with fail
    refine (zzAppendItem_any x (.slice ao1 n cap1) l w1 HO.out (by omega)).mono ?_
    rintro e w2 ⟨v', rfl, ho2, he2⟩
    obtain ⟨ao2, cap2, rfl, hc2, _⟩ := ho2.shape
    have hlen2 : (l ++ [boolByte x]).length = n + 1 := by simp [hlen]
    rw [hlen2] at ho2 he2 hc2 ⊢
    have HO2 : Hid (Own w2 (.slice ao2 (n + 1) cap2) (l ++ [boolByte x])) := ho2
    have HE2 : Hid (Ext w1 (.slice ao1 n cap1) l.length w2 (.slice ao2 (n + 1) cap2) (n + 1)) := he2
    clear ho2 he2
    go_wp2_with fail
    refine (zzAppendItem_any y (.slice ao2 (n + 1) cap2) (l ++ [boolByte x]) w2 HO2.out (by omega)).mono ?_
    rintro e w3 ⟨v'', rfl, ho3, he3⟩
    obtain ⟨ao3, cap3, rfl, hc3, _⟩ := ho3.shape
    have hlen3 : (l ++ [boolByte x] ++ [boolByte y]).length = n + 2 := by simp [hlen]
    rw [hlen3] at ho3 he3 hc3 ⊢
    rw [hlen2] at he3
    have he13 := HE2.out.trans he3
    have hlist : l ++ [boolByte x] ++ [boolByte y] = l ++ [boolByte x, boolByte y] := by simp
    rw [hlist] at ho3
    have B3 : Hid (BytesAt w3 ao3 (n + 2) (l ++ [boolByte x, boolByte y])) := ho3.bytes
    have B1 : Hid (BytesAt w3 ao1 n l) := (he13.keeps _ _ HO.out (fun _ => Nat.le_refl _)).bytes
    have HB3 : Hid (Below w.heap.size w w3) := he13.below HB.out HB.out.size HV.out
    have hcb3 := ho3.capBound
    clear ho3 he3 he13 HO HB HV hlen2 hlen3 HO2 HE2 hlist
    go_wp2_with fail
    refine (hasPrefix_yes ao3 (n + 2) cap3 [boolByte x, boolByte y] ao1 n cap1 l w3 B3.out B1.out (by omega)).mono ?_
    rintro e w4 ⟨rfl, q, rfl⟩
    obtain ⟨b, off, rfl, hc⟩ := B3.out.cells (by omega)
    have B4 : Hid (BytesAt (w3.drewN q) (cutAt (some ⟨b, off, none⟩) cap3 n) (n + 2 - n) ((l ++ [boolByte x, boolByte y]).drop n)) := (B3.out.mono (below_drewN (Below.refl _ _) q)).cut hc3 n (by omega)
    rw [cutAt_some (by omega), show n + 2 - n = 2 from by omega, ← hlen, List.drop_left, hlen] at B4
    have B5 : Hid (BytesAt (w3.drewN q) (cutAt (some ⟨b, off + n, none⟩) (cap3 - n) 1) (2 - 1) ([boolByte x, boolByte y].drop 1)) := B4.out.cut (by omega) 1 (by omega)
    rw [cutAt_some (by omega)] at B5
    have hx : byteAt [boolByte x, boolByte y] 0 / 32 = 7 ∧ byteAt [boolByte x, boolByte y] 0 % 32 < 24 := by
      have e : byteAt [boolByte x, boolByte y] 0 = ((boolByte x).toNat : Int) := rfl
      rw [e]; cases x <;> decide
    have hy : byteAt [boolByte y] 0 / 32 = 7 ∧ byteAt [boolByte y] 0 % 32 < 24 := by
      have e : byteAt [boolByte y] 0 = ((boolByte y).toNat : Int) := rfl
      rw [e]; cases y <;> decide
    obtain ⟨cx, cy⟩ : w3.cell? ⟨b, off + n, none⟩ = some (.int .u8 ((boolByte x).toNat : Int)) ∧ w3.cell? ⟨b, off + (n + 1), none⟩ = some (.int .u8 ((boolByte y).toNat : Int)) := by
      have t := two_at l (boolByte x) (boolByte y) n hlen
      exact ⟨by rw [hc n (by omega), t.1], by rw [hc (n + 1) (by omega), t.2]⟩
    clear hc B1
    go_wp2_with fail
    have HC : Hid _ := zzcanon_simple (.slice none 0 0) [] (some ⟨b, off + n, none⟩) 2 (cap3 - n) [boolByte x, boolByte y] (w3.drewN q) (Own.nil _) B4.out (by omega) (by omega) (by omega) hx.1 hx.2 (by simp)
    rw [cutAt_some (by omega), show 2 - 1 = 1 from rfl] at HC
    refine Calls.mono HC.out ?_
    clear HC B4
    rintro e w5 ⟨v5, rfl, ho5, he5⟩
    have hb5 := he5.nilBelow
    obtain ⟨ao5, cap5, rfl, hc5, _⟩ := ho5.shape
    have e5 : ([] ++ List.take 1 [boolByte x, boolByte y]).length = 1 := rfl
    rw [e5] at ho5 hc5 ⊢
    have B6 : Hid (BytesAt w5 (some ⟨b, off + n + 1, none⟩) 1 [boolByte y]) := B5.out.mono hb5
    have HB5 : Hid (Below w.heap.size w w5) := (below_drewN HB3.out q).trans (hb5.mono (below_drewN HB3.out q).size)
    obtain ⟨g5, o5, rfl, ca⟩ := ho5.bytes.first (by omega)
    have ex : byteAt ([] ++ List.take 1 [boolByte x, boolByte y]) 0 = ((boolByte x).toNat : Int) := rfl
    rw [ex] at ca
    have hblt : b < (w3.drewN q).heap.size := World.block_lt_of_cell? w3 ⟨b, off + n, none⟩ cx
    have dx : w5.cell? ⟨b, off + n, none⟩ = some (.int .u8 ((boolByte x).toNat : Int)) := (hb5.cell (p := ⟨b, off + n, none⟩) hblt).trans cx
    have dy : w5.cell? ⟨b, off + (n + 1), none⟩ = some (.int .u8 ((boolByte y).toNat : Int)) := (hb5.cell (p := ⟨b, off + (n + 1), none⟩) hblt).trans cy
    have dy' : w5.cell? ⟨b, off + n + 1, none⟩ = some (.int .u8 ((boolByte y).toNat : Int)) := dy
    clear he5 ho5 e5 ex cx cy B5 hb5 hblt HB3
    obtain ⟨X, hX⟩ : ∃ X : Int, ((boolByte x).toNat : Int) = X := ⟨_, rfl⟩
    obtain ⟨Y, hY⟩ : ∃ Y : Int, ((boolByte y).toNat : Int) = Y := ⟨_, rfl⟩
    rw [hX] at ca dx
    rw [hY] at dy dy'
    have EX : Hid _ := hX
    have EY : Hid _ := hY
    clear hX hY
    have i1 : (n : Int) < n + 2 := by omega
    have i2 : (n : Int) + 1 < n + 2 := by omega
    go_wp2_with fail
    go_quiet (fail)
    go_wp2_with fail
    have HC : Hid _ := zzcanon_simple (.slice none 0 0) [] (some ⟨b, off + n + 1, none⟩) 1 (cap3 - n - 1) [boolByte y] (w5.drewN nq) (Own.nil _) (B6.out.mono (below_drewN (Below.refl _ _) nq)) (by omega) (by omega) (by omega) hy.1 hy.2 (by simp)
    rw [show 1 - 1 = 0 from rfl] at HC
    refine Calls.mono HC.out ?_
    clear HC
    rintro e w6 ⟨v6, rfl, ho6, he6⟩
    have hb6 := he6.nilBelow
    obtain ⟨ao6, cap6, rfl, hc6, _⟩ := ho6.shape
    have e6 : ([] ++ List.take 1 [boolByte y]).length = 1 := rfl
    rw [e6] at ho6 hc6 ⊢
    have HB6 : Hid (Below w.heap.size w w6) := (below_drewN HB5.out nq).trans (hb6.mono (below_drewN HB5.out nq).size)
    obtain ⟨g6, o6, rfl, cc⟩ := ho6.bytes.first (by omega)
    have ey : byteAt ([] ++ List.take 1 [boolByte y]) 0 = ((boolByte y).toNat : Int) := rfl
    rw [ey, EY.out] at cc
    have hblt : b < (w5.drewN nq).heap.size := World.block_lt_of_cell? w5 ⟨b, off + n, none⟩ dx
    have fx : w6.cell? ⟨b, off + n, none⟩ = some (.int .u8 X) := (hb6.cell (p := ⟨b, off + n, none⟩) hblt).trans dx
    have fy : w6.cell? ⟨b, off + (n + 1), none⟩ = some (.int .u8 Y) := (hb6.cell (p := ⟨b, off + (n + 1), none⟩) hblt).trans dy
    generalize cutAt (some ⟨b, off + n + 1, none⟩) (cap3 - n - 1) 1 = ao7
    clear he6 ho6 e6 ey hb6 hblt HB5 ca dx dy dy' B6 hx hy
    go_wp2_with fail
    go_quiet (fail)
    have ex := EX.out
    have ey := EY.out
    clear EX EY cc
    cases x with
    | false =>
      obtain rfl : (244 : Int) = X := ex
      cases y with
      | false =>
        obtain rfl : (244 : Int) = Y := ey
        go_wp2_with fail
        go_quiet (fail)
        go_wp2
        go_ret
        exact ⟨rfl, below_drewN (below_drewN HB6.out _) _⟩
      | true =>
        obtain rfl : (245 : Int) = Y := ey
        go_wp2_with fail
        go_quiet (fail)
        go_wp2
        go_ret
        exact ⟨rfl, below_drewN (below_drewN HB6.out _) _⟩
    | true =>
      obtain rfl : (245 : Int) = X := ex
      cases y with
      | false =>
        obtain rfl : (244 : Int) = Y := ey
        go_wp2_with fail
        go_quiet (fail)
        go_wp2
        go_ret
        exact ⟨rfl, below_drewN (below_drewN HB6.out _) _⟩
      | true =>
        obtain rfl : (245 : Int) = Y := ey
        go_wp2_with fail
        go_quiet (fail)
        go_wp2
        go_ret
        exact ⟨rfl, below_drewN (below_drewN HB6.out _) _⟩

end Go.Proofs.Qxb6604654a

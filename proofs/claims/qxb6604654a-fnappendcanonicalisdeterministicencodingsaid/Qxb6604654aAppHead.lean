/-
  appendHead: the contract.
-/
import Derived.Test.Qxb6604654aHeadAll
import Derived.Test.Qxb6604654aEhead
import Derived.Test.Qxb6604654aAppRun
namespace Go.Proofs.Qxb6604654a
open Go.RowKit

set_option maxHeartbeats 400000 in
theorem app16_any (v : Value) (l : List UInt8) (x : Nat) (w : World) (h : Own w v l) (hx : x < 65536) (hl : l.length ≤ 2199023255552) :
    Calls Try.prog 32 #[.agg #[], v, .int .u16 (x : Nat)] w fun e w' => ∃ v', e = .returned v' ∧ Own w' v' (l ++ be2 x) ∧ Ext w v l.length w' v' (l ++ be2 x).length := by
  have HO : Hid (Own w v l) := h
  clear h
  go_enter Try.func32, Try.ntmps32
  go_wp2_with (at_builtin; refine wpList_append_mine _ rfl _ _ rfl v l rfl (HO.out.below (((Below.refl _ _).alloc (Nat.le_refl _) _).alloc (by simp) _)) ⟨w.heap.size + 1, 0, none⟩ 2 2 (be2 x) rfl rfl ?c1 ?c2 ?_)
  case c1 =>
    intro j hj
    have hj' : j = 0 ∨ j = 1 := by omega
    rcases hj' with rfl | rfl <;> simp [Addr.add, be2, byteAt]
    omega
  case c2 => omega
  intro v' w' ho he
  have HO' : Hid (Own w' v' (l ++ be2 x)) := ho
  have HE : Hid (Ext w v l.length w' v' (l ++ be2 x).length) := by rw [List.length_append]; exact Ext.after ((((Below.refl _ _).alloc (Nat.le_refl _) _).alloc (by simp) _)) he
  clear ho he
  go_wp2
  go_ret
  exact ⟨_, rfl, HO'.out, HE.out⟩

set_option maxHeartbeats 400000 in
theorem app32_any (v : Value) (l : List UInt8) (x : Nat) (w : World) (h : Own w v l) (hx : x < 4294967296) (hl : l.length ≤ 2199023255552) :
    Calls Try.prog 33 #[.agg #[], v, .int .u32 (x : Nat)] w fun e w' => ∃ v', e = .returned v' ∧ Own w' v' (l ++ be4 x) ∧ Ext w v l.length w' v' (l ++ be4 x).length := by
  have HO : Hid (Own w v l) := h
  clear h
  go_enter Try.func33, Try.ntmps33
  go_wp2_with (at_builtin; refine wpList_append_mine _ rfl _ _ rfl v l rfl (HO.out.below (((Below.refl _ _).alloc (Nat.le_refl _) _).alloc (by simp) _)) ⟨w.heap.size + 1, 0, none⟩ 4 4 (be4 x) rfl rfl ?c1 ?c2 ?_)
  case c1 =>
    intro j hj
    have hj' : j = 0 ∨ j = 1 ∨ j = 2 ∨ j = 3 := by omega
    rcases hj' with rfl | rfl | rfl | rfl <;> simp [Addr.add, be4, byteAt]
    omega
  case c2 => omega
  intro v' w' ho he
  have HO' : Hid (Own w' v' (l ++ be4 x)) := ho
  have HE : Hid (Ext w v l.length w' v' (l ++ be4 x).length) := by rw [List.length_append]; exact Ext.after ((((Below.refl _ _).alloc (Nat.le_refl _) _).alloc (by simp) _)) he
  clear ho he
  go_wp2
  go_ret
  exact ⟨_, rfl, HO'.out, HE.out⟩

set_option maxHeartbeats 400000 in
theorem app64_any (v : Value) (l : List UInt8) (x : Nat) (w : World) (h : Own w v l) (hx : x < 18446744073709551616) (hl : l.length ≤ 2199023255552) :
    Calls Try.prog 34 #[.agg #[], v, .int .u64 (x : Nat)] w fun e w' => ∃ v', e = .returned v' ∧ Own w' v' (l ++ be8 x) ∧ Ext w v l.length w' v' (l ++ be8 x).length := by
  have HO : Hid (Own w v l) := h
  clear h
  go_enter Try.func34, Try.ntmps34
  go_wp2_with (at_builtin; refine wpList_append_mine _ rfl _ _ rfl v l rfl (HO.out.below (((Below.refl _ _).alloc (Nat.le_refl _) _).alloc (by simp) _)) ⟨w.heap.size + 1, 0, none⟩ 8 8 (be8 x) rfl rfl ?c1 ?c2 ?_)
  case c1 =>
    intro j hj
    have hj' : j = 0 ∨ j = 1 ∨ j = 2 ∨ j = 3 ∨ j = 4 ∨ j = 5 ∨ j = 6 ∨ j = 7 := by omega
    rcases hj' with rfl | rfl | rfl | rfl | rfl | rfl | rfl | rfl <;> simp [Addr.add, be8, byteAt]
    omega
  case c2 => omega
  intro v' w' ho he
  have HO' : Hid (Own w' v' (l ++ be8 x)) := ho
  have HE : Hid (Ext w v l.length w' v' (l ++ be8 x).length) := by rw [List.length_append]; exact Ext.after ((((Below.refl _ _).alloc (Nat.le_refl _) _).alloc (by simp) _)) he
  clear ho he
  go_wp2
  go_ret
  exact ⟨_, rfl, HO'.out, HE.out⟩

theorem one_new (w : World) (c : Int) (b : UInt8) (hc : c = b.toNat) : BytesAt (w.alloc (.cells #[.int .u8 c] 5)) (some ⟨w.heap.size, 0, none⟩) 1 [b] := by
  refine ⟨rfl, fun _ => ⟨_, _, rfl, fun k hk => ?_⟩⟩
  obtain rfl : k = 0 := by omega
  subst hc
  simp [byteAt]
theorem two_new (w : World) (c d : Int) (b b' : UInt8) (hc : c = b.toNat) (hd : d = b'.toNat) : BytesAt (w.alloc (.cells #[.int .u8 c, .int .u8 d] 5)) (some ⟨w.heap.size, 0, none⟩) 2 [b, b'] := by
  refine ⟨rfl, fun _ => ⟨_, _, rfl, fun k hk => ?_⟩⟩
  have : k = 0 ∨ k = 1 := by omega
  subst hc hd
  rcases this with rfl | rfl <;> simp [byteAt]
theorem BytesAt.drew {w : World} {ao : Option Addr} {n : Nat} {l : List UInt8} (h : BytesAt w ao n l) : BytesAt w.drew ao n l := ⟨h.len, h.cells⟩
theorem Below.drew1 {B : Nat} {w w' : World} (h : Below B w w') : Below B w w'.drew := ⟨h.os, h.tape, h.output, h.size, h.block⟩
theorem or_m (m i : Nat) (hm : m < 8) (hi : i < 32) : bits .or .u8 ((m : Int) * 32) (i : Int) = (m : Int) * 32 + i := by
  have e3 : ((m : Int) * 32) = ((m * 32 : Nat) : Int) := by simp
  rw [e3, u8_or ((m * 32 : Nat) : Int) i (by omega) (by omega) (by omega) (by omega)]
  have e : (((m * 32 : Nat) : Int)).toNat = m * 2 ^ 5 := by rfl
  rw [e, nat_join 5 (m * 2 ^ 5) (i : Int).toNat (by simp) (by omega)]
  omega

set_option maxHeartbeats 400000 in
theorem apphead_small (v : Value) (l : List UInt8) (m x : Nat) (b0 : UInt8) (w : World) (h : Own w v l) (hb : Hid (((m : Int) * 32 + x) = (b0.toNat : Int))) (hm : m < 8) (hx : x < 24) (hl : l.length ≤ 1099511627776) :
    Calls Try.prog 27 #[v, .int .u8 (m : Nat), .int .u64 (x : Nat)] w fun e w' => ∃ v', e = .returned v' ∧ Own w' v' (l ++ [b0]) ∧ Ext w v l.length w' v' (l ++ [b0]).length := by
  have HO : Hid (Own w v l) := h
  clear h
  have ho := or_m m x hm (by omega)
  have i1 : (x : Int) < 24 := by omega
  go_enter Try.func27, Try.ntmps27
  go_wp2_with (at_builtin; refine wpList_append_own2 _ rfl _ _ rfl v l rfl (HO.out.below ((Below.refl _ _).alloc (Nat.le_refl _) _)) _ _ _ [b0] rfl (one_new _ _ _ hb.out) (fun h => by simp at h) (by omega) ?_)
  intro v' w' ho he
  have HO' : Hid _ := ho
  have HE : Hid _ := Ext.after ((Below.refl _ _).alloc (Nat.le_refl _) _) he
  clear ho he
  go_wp2
  go_ret
  exact ⟨_, rfl, HO'.out, by rw [List.length_append]; exact HE.out⟩

set_option maxHeartbeats 400000 in
theorem apphead_24 (v : Value) (l : List UInt8) (m x : Nat) (b0 b1 : UInt8) (w : World) (h : Own w v l) (hb : Hid (((m : Int) * 32 + 24) = (b0.toNat : Int))) (hb2 : Hid ((x : Int) = (b1.toNat : Int))) (hm : m < 8) (h0 : 24 ≤ x) (hx : x < 256) (hl : l.length ≤ 1099511627776) :
    Calls Try.prog 27 #[v, .int .u8 (m : Nat), .int .u64 (x : Nat)] w fun e w' => ∃ v', e = .returned v' ∧ Own w' v' (l ++ [b0, b1]) ∧ Ext w v l.length w' v' (l ++ [b0, b1]).length := by
  have HO : Hid (Own w v l) := h
  clear h
  have ho : bits .or .u8 ((m : Int) * 32) 24 = (m : Int) * 32 + 24 := or_m m 24 hm (by omega)
  have i1 : decide ((x : Int) < 24) = false := by simp; omega
  have i2 : (x : Int) ≤ 255 := by omega
  go_enter Try.func27, Try.ntmps27
  go_wp2_with (at_builtin; refine wpList_append_own2 _ rfl _ _ rfl v l rfl (HO.out.below ((Below.refl _ _).alloc (Nat.le_refl _) _)) _ _ _ [b0, b1] rfl (two_new _ _ _ _ _ hb.out hb2.out) (fun h => by simp at h) (by omega) ?_)
  intro v' w' ho he
  have HO' : Hid _ := ho
  have HE : Hid _ := Ext.after ((Below.refl _ _).alloc (Nat.le_refl _) _) he
  clear ho he
  go_wp2
  go_ret
  exact ⟨_, rfl, HO'.out, by rw [List.length_append]; exact HE.out⟩

set_option maxHeartbeats 400000 in
theorem apphead_25 (v : Value) (l : List UInt8) (m x : Nat) (b0 : UInt8) (w : World) (h : Own w v l) (hb : Hid (((m : Int) * 32 + 25) = (b0.toNat : Int))) (hm : m < 8) (h0 : 256 ≤ x) (hx : x < 65536) (hl : l.length ≤ 1099511627776) :
    Calls Try.prog 27 #[v, .int .u8 (m : Nat), .int .u64 (x : Nat)] w fun e w' => ∃ v', e = .returned v' ∧ Own w' v' (l ++ ([b0] ++ be2 x)) ∧ Ext w v l.length w' v' (l ++ ([b0] ++ be2 x)).length := by
  have HO : Hid (Own w v l) := h
  clear h
  have ho : bits .or .u8 ((m : Int) * 32) 25 = (m : Int) * 32 + 25 := or_m m 25 hm (by omega)
  have hw : IntKind.u16.wrap (x : Int) = x := IntWalk.u16_in _ ⟨by omega, by omega⟩
  have i1 : decide ((x : Int) < 24) = false := by simp; omega
  have i2 : decide ((x : Int) ≤ 255) = false := by simp; omega
  have i3 : (x : Int) ≤ 65535 := by omega
  go_enter Try.func27, Try.ntmps27
  go_wp2
  go_region_held3 (fun _ => True) (trivial) (first | ((refine step_append_mine _ (by rfl) _ _ (by rfl) v l (by rfl) (Own.drew (HO.out.below ((Below.refl _ _).alloc (Nat.le_refl _) _))) _ _ _ [b0] (by rfl) (BytesAt.drew (one_new _ _ _ hb.out)) (fun h => by simp at h) (by omega) ?_; intro v1 w1 ho1 he1)) | (go_at_call 32; refine (app16_any v1 _ x _ ho1 hx (by rw [List.length_append]; simp; omega)).mono ?_; rintro e w' ⟨v', rfl, ho2, he2⟩))
  go_wp2
  go_ret
  rw [List.append_cons]
  exact ⟨_, rfl, ho2, Ext.trans (Ext.after (Below.drew1 ((Below.refl _ _).alloc (Nat.le_refl _) _)) he1) he2⟩

set_option maxHeartbeats 400000 in
theorem apphead_26 (v : Value) (l : List UInt8) (m x : Nat) (b0 : UInt8) (w : World) (h : Own w v l) (hb : Hid (((m : Int) * 32 + 26) = (b0.toNat : Int))) (hm : m < 8) (h0 : 65536 ≤ x) (hx : x < 4294967296) (hl : l.length ≤ 1099511627776) :
    Calls Try.prog 27 #[v, .int .u8 (m : Nat), .int .u64 (x : Nat)] w fun e w' => ∃ v', e = .returned v' ∧ Own w' v' (l ++ ([b0] ++ be4 x)) ∧ Ext w v l.length w' v' (l ++ ([b0] ++ be4 x)).length := by
  have HO : Hid (Own w v l) := h
  clear h
  have ho : bits .or .u8 ((m : Int) * 32) 26 = (m : Int) * 32 + 26 := or_m m 26 hm (by omega)
  have hw : IntKind.u32.wrap (x : Int) = x := IntWalk.u32_in _ ⟨by omega, by omega⟩
  have i1 : decide ((x : Int) < 24) = false := by simp; omega
  have i2 : decide ((x : Int) ≤ 255) = false := by simp; omega
  have i3 : decide ((x : Int) ≤ 65535) = false := by simp; omega
  have i4 : (x : Int) ≤ 4294967295 := by omega
  go_enter Try.func27, Try.ntmps27
  go_wp2
  go_region_held3 (fun _ => True) (trivial) (first | ((refine step_append_mine _ (by rfl) _ _ (by rfl) v l (by rfl) (Own.drew (HO.out.below ((Below.refl _ _).alloc (Nat.le_refl _) _))) _ _ _ [b0] (by rfl) (BytesAt.drew (one_new _ _ _ hb.out)) (fun h => by simp at h) (by omega) ?_; intro v1 w1 ho1 he1)) | (go_at_call 33; refine (app32_any v1 _ x _ ho1 hx (by rw [List.length_append]; simp; omega)).mono ?_; rintro e w' ⟨v', rfl, ho2, he2⟩))
  go_wp2
  go_ret
  rw [List.append_cons]
  exact ⟨_, rfl, ho2, Ext.trans (Ext.after (Below.drew1 ((Below.refl _ _).alloc (Nat.le_refl _) _)) he1) he2⟩

set_option maxHeartbeats 400000 in
theorem apphead_27 (v : Value) (l : List UInt8) (m x : Nat) (b0 : UInt8) (w : World) (h : Own w v l) (hb : Hid (((m : Int) * 32 + 27) = (b0.toNat : Int))) (hm : m < 8) (h0 : 4294967296 ≤ x) (hx : x < 18446744073709551616) (hl : l.length ≤ 1099511627776) :
    Calls Try.prog 27 #[v, .int .u8 (m : Nat), .int .u64 (x : Nat)] w fun e w' => ∃ v', e = .returned v' ∧ Own w' v' (l ++ ([b0] ++ be8 x)) ∧ Ext w v l.length w' v' (l ++ ([b0] ++ be8 x)).length := by
  have HO : Hid (Own w v l) := h
  clear h
  have ho : bits .or .u8 ((m : Int) * 32) 27 = (m : Int) * 32 + 27 := or_m m 27 hm (by omega)
  have i1 : decide ((x : Int) < 24) = false := by simp; omega
  have i2 : decide ((x : Int) ≤ 255) = false := by simp; omega
  have i3 : decide ((x : Int) ≤ 65535) = false := by simp; omega
  have i4 : decide ((x : Int) ≤ 4294967295) = false := by simp; omega
  go_enter Try.func27, Try.ntmps27
  go_wp2
  go_region_held3 (fun _ => True) (trivial) (first | ((refine step_append_mine _ (by rfl) _ _ (by rfl) v l (by rfl) (Own.drew (HO.out.below ((Below.refl _ _).alloc (Nat.le_refl _) _))) _ _ _ [b0] (by rfl) (BytesAt.drew (one_new _ _ _ hb.out)) (fun h => by simp at h) (by omega) ?_; intro v1 w1 ho1 he1)) | (go_at_call 34; refine (app64_any v1 _ x _ ho1 hx (by rw [List.length_append]; simp; omega)).mono ?_; rintro e w' ⟨v', rfl, ho2, he2⟩))
  go_wp2
  go_ret
  rw [List.append_cons]
  exact ⟨_, rfl, ho2, Ext.trans (Ext.after (Below.drew1 ((Below.refl _ _).alloc (Nat.le_refl _) _)) he1) he2⟩

/-- appendHead: the shortest head behind what is there. -/
theorem appendHead_any (v : Value) (l : List UInt8) (m x : Nat) (w : World) (h : Own w v l) (hm : m < 8) (hx : x < 18446744073709551616) (hl : l.length ≤ 1099511627776) :
    Calls Try.prog 27 #[v, .int .u8 (m : Nat), .int .u64 (x : Nat)] w fun e w' => ∃ v', e = .returned v' ∧ Own w' v' (l ++ ehead m x) ∧ Ext w v l.length w' v' (l ++ ehead m x).length := by
  have hb : ∀ i : Nat, i < 32 → ((m : Int) * 32 + i) = ((UInt8.ofNat (m * 32 + i)).toNat : Int) := by intro i hi; rw [toNat_ofNat8]; omega
  have hd : x < 24 ∨ (24 ≤ x ∧ x < 256) ∨ (256 ≤ x ∧ x < 65536) ∨ (65536 ≤ x ∧ x < 4294967296) ∨ 4294967296 ≤ x := by omega
  unfold ehead
  rcases hd with h1 | ⟨h0, h1⟩ | ⟨h0, h1⟩ | ⟨h0, h1⟩ | h0
  · rw [if_pos h1]
    exact apphead_small v l m x _ w h (hb x (by omega)) hm h1 hl
  · rw [if_neg (by omega), if_pos h1]
    exact apphead_24 v l m x _ _ w h (hb 24 (by omega)) (by show _ = _; rw [toNat_ofNat8]; omega) hm h0 h1 hl
  · rw [if_neg (by omega), if_neg (by omega), if_pos h1]
    exact apphead_25 v l m x _ w h (hb 25 (by omega)) hm h0 h1 hl
  · rw [if_neg (by omega), if_neg (by omega), if_neg (by omega), if_pos h1]
    exact apphead_26 v l m x _ w h (hb 26 (by omega)) hm h0 h1 hl
  · rw [if_neg (by omega), if_neg (by omega), if_neg (by omega), if_neg (by omega)]
    exact apphead_27 v l m x _ w h (hb 27 (by omega)) hm h0 hx hl

end Go.Proofs.Qxb6604654a

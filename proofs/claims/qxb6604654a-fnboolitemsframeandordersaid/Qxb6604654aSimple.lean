/-
  appendCanonical where b begins with a simple value of one byte (major type 7, low five bits below 24).
-/
import Derived.Test.Qxb6604654aHead
namespace Go.Proofs.Qxb6604654a
open Go.RowKit

theorem take1_byte (l : List UInt8) : byteAt (l.take 1) 0 = byteAt l 0 := by
  unfold byteAt
  rw [List.getD, List.getD, List.getElem?_take, if_pos (by omega)]

theorem canon_simple (v : Value) (dl : List UInt8) (ao : Option Addr) (n cap : Nat) (l : List UInt8) (w : World) (hd : Own w v dl) (h : BytesAt w ao n l) (hn0 : 0 < n) (hcap : n ≤ cap) (hn : cap ≤ 9223372036854775807)
    (hm : byteAt l 0 / 32 = 7) (hs : byteAt l 0 % 32 < 24) (hdl : dl.length ≤ 1099511627776) :
    Calls Try.prog 21 #[v, .slice ao n cap] w fun e w' => ∃ v', e = .returned (.tuple #[v', .slice (cutAt ao cap 1) (n - 1) (cap - 1)]) ∧ Own w' v' (dl ++ l.take 1) ∧ Ext w v dl.length w' v' (dl ++ l.take 1).length := by
  have hlen := h.len
  have HO : Hid (Own w v dl) := hd
  have HS : Hid (BytesAt w ao n l) := h
  obtain ⟨b, off, rfl, hc⟩ := h.cells hn0
  have c0 := hc 0 hn0
  rw [Nat.add_zero] at c0
  have hb := byteAt_bd l 0
  have hh := head_small (some ⟨b, off, none⟩) n cap l w h hn0 hcap hs
  rw [hm] at hh
  have ht : byteAt (l.take 1) 0 = byteAt l 0 := take1_byte l
  have htl : (l.take 1).length = n - (n - 1) := by rw [List.length_take]; omega
  have HH : Hid _ := hh
  clear h hc hd hh
  generalize hao1 : cutAt (some ⟨b, off, none⟩) cap 1 = ao1 at *
  have A : Hid _ := hao1
  clear hao1
  go_enter Try.func21, Try.ntmps21
  go_wp2_with fail
  refine Calls.mono HH.out ?_
  clear HH
  rintro e w1 ⟨rfl, q, rfl⟩
  go_wp2_with (at_builtin; refine wpList_append_mine _ rfl _ _ rfl v dl rfl (HO.out.drewN q) ⟨b, off, none⟩ (n - (n - 1)) cap (l.take 1) rfl htl ?c1 ?c2 ?_)
  case c1 =>
    intro j hj
    obtain rfl : j = 0 := by omega
    rw [ht]
    simp [Addr.add, c0]
  case c2 => omega
  intro v' w' ho he
  have HO' : Hid (Own w' v' (dl ++ l.take 1)) := ho
  have HE : Hid (Ext w v dl.length w' v' (dl ++ l.take 1).length) := by rw [List.length_append, htl]; exact Ext.after (below_drewN (Below.refl _ _) q) he
  clear ho he
  go_wp2
  go_ret2
  exact ⟨_, rfl, HO'.out, HE.out⟩

theorem zzcanon_simple (v : Value) (dl : List UInt8) (ao : Option Addr) (n cap : Nat) (l : List UInt8) (w : World) (hd : Own w v dl) (h : BytesAt w ao n l) (hn0 : 0 < n) (hcap : n ≤ cap) (hn : cap ≤ 9223372036854775807)
    (hm : byteAt l 0 / 32 = 7) (hs : byteAt l 0 % 32 < 24) (hdl : dl.length ≤ 1099511627776) :
    Calls Try.prog 10 #[v, .slice ao n cap] w fun e w' => ∃ v', e = .returned (.tuple #[v', .slice (cutAt ao cap 1) (n - 1) (cap - 1)]) ∧ Own w' v' (dl ++ l.take 1) ∧ Ext w v dl.length w' v' (dl ++ l.take 1).length := by
  have HC : Hid _ := canon_simple v dl ao n cap l w hd h hn0 hcap hn hm hs hdl
  generalize hao1 : cutAt ao cap 1 = ao1 at *
  have A : Hid _ := hao1
  clear hao1 hd h hm hs
  go_enter Try.func10, Try.ntmps10
  go_wp2_with fail
  refine Calls.mono HC.out ?_
  rintro e w' ⟨v', rfl, ho, he⟩
  have HO : Hid _ := ho
  have HE : Hid _ := he
  clear ho he HC
  go_wp2
  go_ret2
  exact ⟨_, rfl, HO.out, HE.out⟩

end Go.Proofs.Qxb6604654a

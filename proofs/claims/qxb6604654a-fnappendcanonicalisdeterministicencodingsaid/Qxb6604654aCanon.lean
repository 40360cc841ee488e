/-
  appendCanonical: the contract.
-/
import Derived.Test.Qxb6604654aMap
import Derived.Test.Qxb6604654aEncMk
namespace Go.Proofs.Qxb6604654a
open Go.RowKit

theorem cutAt_at (b off cap i : Nat) : ∃ o1, cutAt (some ⟨b, off, none⟩) cap i = some ⟨b, o1, none⟩ := by
  by_cases h : cap = i
  · subst h
    exact ⟨off, cutAt_end _ _⟩
  · exact ⟨off + i, cutAt_some h⟩
theorem BytesAt.front {w : World} {ao : Option Addr} {n : Nat} {l : List UInt8} (h : BytesAt w ao n l) (q : Nat) (hq : q ≤ n) : BytesAt w ao q (l.take q) := by
  refine ⟨by rw [List.length_take, h.len]; omega, fun h0 => ?_⟩
  obtain ⟨b, off, rfl, hc⟩ := h.cells (by omega)
  refine ⟨b, off, rfl, fun k hk => ?_⟩
  rw [hc k (by omega), byteAt_nb, byteAt_nb, nb_take l q k hk]
theorem BytesAt.lt {w : World} {b off n : Nat} {l : List UInt8} (h : BytesAt w (some ⟨b, off, none⟩) n l) (hn : 0 < n) : b < w.heap.size := by
  obtain ⟨b', off', e, hc⟩ := h.cells hn
  simp only [Option.some.injEq, Addr.mk.injEq, and_true] at e
  obtain ⟨rfl, rfl⟩ := e
  exact World.block_lt_of_cell? w _ (hc 0 hn)
theorem Ext.bytesAt {w w' : World} {v v' : Value} {n n' : Nat} (h : Ext w v n w' v' n') {b off k : Nat} {l : List UInt8} (hb : BytesAt w (some ⟨b, off, none⟩) k l) (hne : v.ownBlock ≠ some b) : BytesAt w' (some ⟨b, off, none⟩) k l :=
  h.bytes hb fun a ha e => by
    obtain rfl := Option.some.inj ha
    exact hne e.symm

theorem ret2_eq {a a' c c' : Value} (h1 : a = a') (h2 : c = c') : Ending.returned (.tuple #[a, c]) = .returned (.tuple #[a', c']) := by rw [h1, h2]
/-- The array's loop: j items have been written behind the head. -/
structure M4 (f : Nat) (w : World) (v : Value) (dl : List UInt8) (b n : Nat) (l : List UInt8) (x j c d off : Nat) (os : List (List UInt8)) (vr : Value) (wr : World) : Prop where
  mid : Mid f l j (x - j) c d
  enc : SeqEnc (Enc f) (itemLen f) j l os
  own : Own wr vr (dl ++ (ehead 4 x ++ os.flatten))
  ext : Ext w v dl.length wr vr (dl ++ (ehead 4 x ++ os.flatten)).length
  bytes : BytesAt wr (some ⟨b, off, none⟩) (n - c) (l.drop c)
theorem M4.next {f : Nat} {w : World} {v : Value} {dl : List UInt8} {b n : Nat} {l : List UInt8} {x j c d off : Nat} {os : List (List UInt8)} {vr : Value} {wr : World} (h : M4 f w v dl b n l x j c d off os vr wr) (hj : j < x)
    {a : Nat} (ha : itemLen f (l.drop c) = some a) {o : List UInt8} (en : Enc f (l.drop c) o) {v3 : Value} {w3 : World} {off3 : Nat} (ow : Own w3 v3 (dl ++ (ehead 4 x ++ os.flatten) ++ o))
    (ex : Ext wr vr (dl ++ (ehead 4 x ++ os.flatten)).length w3 v3 (dl ++ (ehead 4 x ++ os.flatten) ++ o).length) (hb : BytesAt w3 (some ⟨b, off3, none⟩) (n - c - a) ((l.drop c).drop a)) :
    ∃ d', M4 f w v dl b n l x (j + 1) (c + a) d' off3 (os ++ [o]) v3 w3 := by
  obtain ⟨hm, he, ho, hx, hbb⟩ := h
  rw [show x - j = (x - (j + 1)) + 1 from by omega] at hm
  obtain ⟨a1, d1, q1, rfl, hm1⟩ := hm.next
  rw [ha] at q1
  obtain rfl := Option.some.inj q1
  have e : dl ++ (ehead 4 x ++ (os ++ [o]).flatten) = dl ++ (ehead 4 x ++ os.flatten) ++ o := by simp
  refine ⟨d1, hm1, SeqEnc.snoc j l os c he hm.1 ha en, by rw [e]; exact ow, ?_, ?_⟩
  · rw [e]
    exact hx.trans ex
  · rw [List.drop_drop, Nat.sub_sub] at hb
    exact hb

set_option maxHeartbeats 1000000 in
set_option maxRecDepth 100000 in
theorem canon_0 (f : Nat) (w : World) (v : Value) (dl : List UInt8) (b off n cap : Nat) (l : List UInt8) (q x : Nat) (HV : Hid (Own w v dl)) (HB : Hid (BytesAt w (some ⟨b, off, none⟩) n l)) (HNE : Hid (v.ownBlock ≠ some b))
    (hcap : n ≤ cap) (hcap2 : cap ≤ 9223372036854775807) (hdl : dl.length + n ≤ 1099511627776) (hx : x < 18446744073709551616) (hqn : q + 0 ≤ n) (HM : Hid (hmaj l = 0)) (HX : Hid (harg l = x)) (_HQ : Hid (hl l = q)) (hq1 : 1 ≤ q) (_HEH : Hid ((ehead 0 x).length ≤ q))
    (o1 : Nat) (HR : Hid (BytesAt w (some ⟨b, o1, none⟩) (n - q) (l.drop q)))
    (HH : Hid (Calls Try.prog 26 #[.slice (some ⟨b, off, none⟩) n cap] w fun e w' => e = .returned (.tuple #[.int .u8 0, .int .u64 (x : Nat), .slice (some ⟨b, o1, none⟩) (n - q) (cap - q)]) ∧ Below w.heap.size w w')) :
    Calls Try.prog 21 #[v, .slice (some ⟨b, off, none⟩) n cap] w (CanonPost (f + 1) w v dl b n cap l q) := by
  go_enter Try.func21, Try.ntmps21
  go_wp2_with fail
  refine Calls.mono HH.out ?_
  clear HH
  rintro e w1 ⟨rfl, hbl⟩
  have HV1 : Hid (Own w1 v dl) := HV.out.below hbl
  have HR1 : Hid (BytesAt w1 (some ⟨b, o1, none⟩) (n - q) (l.drop q)) := HR.out.mono hbl
  have HBL : Hid (Below w.heap.size w w1) := hbl
  have HLT : Hid (b < w1.heap.size) := Nat.lt_of_lt_of_le (HB.out.lt (by omega)) hbl.size
  clear hbl
  have HA : Hid (Calls Try.prog 27 #[v, .int .u8 0, .int .u64 (x : Nat)] w1 _) := appendHead_any v dl 0 x w1 HV1.out (by omega) hx (by omega)
  go_wp2_with fail
  refine Calls.mono HA.out ?_
  clear HA
  rintro e w2 ⟨v2, rfl, ow, ex⟩
  have OW : Hid (Own w2 v2 (dl ++ ehead 0 x)) := ow
  have EX : Hid (Ext w1 v dl.length w2 v2 (dl ++ ehead 0 x).length) := ex
  clear ow ex
  go_wp2_with fail
  go_ret2
  exact ⟨_, _, _, rfl, Enc_mk01 HM.out HX.out (by omega), OW.out, Ext.after HBL.out EX.out, EX.out.bytesAt HR1.out HNE.out⟩

set_option maxHeartbeats 1000000 in
set_option maxRecDepth 100000 in
theorem canon_1 (f : Nat) (w : World) (v : Value) (dl : List UInt8) (b off n cap : Nat) (l : List UInt8) (q x : Nat) (HV : Hid (Own w v dl)) (HB : Hid (BytesAt w (some ⟨b, off, none⟩) n l)) (HNE : Hid (v.ownBlock ≠ some b))
    (hcap : n ≤ cap) (hcap2 : cap ≤ 9223372036854775807) (hdl : dl.length + n ≤ 1099511627776) (hx : x < 18446744073709551616) (hqn : q + 0 ≤ n) (HM : Hid (hmaj l = 1)) (HX : Hid (harg l = x)) (_HQ : Hid (hl l = q)) (hq1 : 1 ≤ q) (_HEH : Hid ((ehead 1 x).length ≤ q))
    (o1 : Nat) (HR : Hid (BytesAt w (some ⟨b, o1, none⟩) (n - q) (l.drop q)))
    (HH : Hid (Calls Try.prog 26 #[.slice (some ⟨b, off, none⟩) n cap] w fun e w' => e = .returned (.tuple #[.int .u8 1, .int .u64 (x : Nat), .slice (some ⟨b, o1, none⟩) (n - q) (cap - q)]) ∧ Below w.heap.size w w')) :
    Calls Try.prog 21 #[v, .slice (some ⟨b, off, none⟩) n cap] w (CanonPost (f + 1) w v dl b n cap l q) := by
  go_enter Try.func21, Try.ntmps21
  go_wp2_with fail
  refine Calls.mono HH.out ?_
  clear HH
  rintro e w1 ⟨rfl, hbl⟩
  have HV1 : Hid (Own w1 v dl) := HV.out.below hbl
  have HR1 : Hid (BytesAt w1 (some ⟨b, o1, none⟩) (n - q) (l.drop q)) := HR.out.mono hbl
  have HBL : Hid (Below w.heap.size w w1) := hbl
  have HLT : Hid (b < w1.heap.size) := Nat.lt_of_lt_of_le (HB.out.lt (by omega)) hbl.size
  clear hbl
  have HA : Hid (Calls Try.prog 27 #[v, .int .u8 1, .int .u64 (x : Nat)] w1 _) := appendHead_any v dl 1 x w1 HV1.out (by omega) hx (by omega)
  go_wp2_with fail
  refine Calls.mono HA.out ?_
  clear HA
  rintro e w2 ⟨v2, rfl, ow, ex⟩
  have OW : Hid (Own w2 v2 (dl ++ ehead 1 x)) := ow
  have EX : Hid (Ext w1 v dl.length w2 v2 (dl ++ ehead 1 x).length) := ex
  clear ow ex
  go_wp2_with fail
  go_ret2
  exact ⟨_, _, _, rfl, Enc_mk01 HM.out HX.out (by omega), OW.out, Ext.after HBL.out EX.out, EX.out.bytesAt HR1.out HNE.out⟩

set_option maxHeartbeats 1000000 in
set_option maxRecDepth 100000 in
theorem canon_7 (f : Nat) (w : World) (v : Value) (dl : List UInt8) (b off n cap : Nat) (l : List UInt8) (q x : Nat) (HV : Hid (Own w v dl)) (HB : Hid (BytesAt w (some ⟨b, off, none⟩) n l)) (HNE : Hid (v.ownBlock ≠ some b))
    (hcap : n ≤ cap) (hcap2 : cap ≤ 9223372036854775807) (hdl : dl.length + n ≤ 1099511627776) (_hx : x < 18446744073709551616) (hqn : q + 0 ≤ n) (HM : Hid (hmaj l = 7)) (_HX : Hid (harg l = x)) (HQ : Hid (hl l = q)) (hq1 : 1 ≤ q) (_HEH : Hid ((ehead 7 x).length ≤ q))
    (o1 : Nat) (HR : Hid (BytesAt w (some ⟨b, o1, none⟩) (n - q) (l.drop q)))
    (HH : Hid (Calls Try.prog 26 #[.slice (some ⟨b, off, none⟩) n cap] w fun e w' => e = .returned (.tuple #[.int .u8 7, .int .u64 (x : Nat), .slice (some ⟨b, o1, none⟩) (n - q) (cap - q)]) ∧ Below w.heap.size w w')) :
    Calls Try.prog 21 #[v, .slice (some ⟨b, off, none⟩) n cap] w (CanonPost (f + 1) w v dl b n cap l q) := by
  go_enter Try.func21, Try.ntmps21
  go_wp2_with fail
  refine Calls.mono HH.out ?_
  clear HH
  rintro e w1 ⟨rfl, hbl⟩
  have HV1 : Hid (Own w1 v dl) := HV.out.below hbl
  have HR1 : Hid (BytesAt w1 (some ⟨b, o1, none⟩) (n - q) (l.drop q)) := HR.out.mono hbl
  have HBL : Hid (Below w.heap.size w w1) := hbl
  have HLT : Hid (b < w1.heap.size) := Nat.lt_of_lt_of_le (HB.out.lt (by omega)) hbl.size
  clear hbl
  have HB1 : Hid (BytesAt w1 (some ⟨b, off, none⟩) q (l.take q)) := (HB.out.mono HBL.out).front q (by omega)
  have hq : ((n : Int) - ((n - q : Nat) : Int)) = (q : Int) := by omega
  have i1 : (q : Int) ≤ cap := by omega
  go_wp2_with (at_builtin; refine wpList_append_own2 _ rfl _ _ rfl v dl rfl HV1.out _ _ _ (l.take q) rfl HB1.out (fun h => by simp at h) (by omega) ?_)
  intro v2 w2 ow ex
  have OW : Hid (Own w2 v2 (dl ++ l.take q)) := ow
  have EX : Hid (Ext w1 v dl.length w2 v2 (dl ++ l.take q).length) := by show Ext _ _ _ _ _ _; rw [List.length_append, List.length_take]; exact ex
  clear ow ex
  go_wp2_with fail
  go_ret2
  exact ⟨_, _, _, rfl, Enc_mk7 HM.out HQ.out, OW.out, Ext.after HBL.out EX.out, EX.out.bytesAt HR1.out HNE.out⟩

set_option maxHeartbeats 1000000 in
set_option maxRecDepth 100000 in
theorem canon_6 (f : Nat) (IH : Hid (CanonC f)) (w : World) (v : Value) (dl : List UInt8) (b off n cap : Nat) (l : List UInt8) (q x c : Nat) (HV : Hid (Own w v dl)) (HB : Hid (BytesAt w (some ⟨b, off, none⟩) n l)) (HNE : Hid (v.ownBlock ≠ some b))
    (hcap : n ≤ cap) (hcap2 : cap ≤ 9223372036854775807) (hdl : dl.length + n ≤ 1099511627776) (hx : x < 18446744073709551616) (hqn : q + 0 ≤ n) (HM : Hid (hmaj l = 6)) (HX : Hid (harg l = x)) (HQ : Hid (hl l = q)) (hq1 : 1 ≤ q) (HEH : Hid ((ehead 6 x).length ≤ q))
    (o1 : Nat) (HR : Hid (BytesAt w (some ⟨b, o1, none⟩) (n - q) (l.drop q)))
    (HH : Hid (Calls Try.prog 26 #[.slice (some ⟨b, off, none⟩) n cap] w fun e w' => e = .returned (.tuple #[.int .u8 6, .int .u64 (x : Nat), .slice (some ⟨b, o1, none⟩) (n - q) (cap - q)]) ∧ Below w.heap.size w w')) (HC : Hid (itemLen f (l.drop q) = some c)) :
    Calls Try.prog 21 #[v, .slice (some ⟨b, off, none⟩) n cap] w (CanonPost (f + 1) w v dl b n cap l (q + c)) := by
  go_enter Try.func21, Try.ntmps21
  go_wp2_with fail
  refine Calls.mono HH.out ?_
  clear HH
  rintro e w1 ⟨rfl, hbl⟩
  have HV1 : Hid (Own w1 v dl) := HV.out.below hbl
  have HR1 : Hid (BytesAt w1 (some ⟨b, o1, none⟩) (n - q) (l.drop q)) := HR.out.mono hbl
  have HBL : Hid (Below w.heap.size w w1) := hbl
  have HLT : Hid (b < w1.heap.size) := Nat.lt_of_lt_of_le (HB.out.lt (by omega)) hbl.size
  clear hbl
  have HA : Hid (Calls Try.prog 27 #[v, .int .u8 6, .int .u64 (x : Nat)] w1 _) := appendHead_any v dl 6 x w1 HV1.out (by omega) hx (by omega)
  go_wp2_with fail
  refine Calls.mono HA.out ?_
  clear HA
  rintro e w2 ⟨v2, rfl, ow, ex⟩
  have OW : Hid (Own w2 v2 (dl ++ ehead 6 x)) := ow
  have EX : Hid (Ext w1 v dl.length w2 v2 (dl ++ ehead 6 x).length) := ex
  clear ow ex
  have HI : Hid (Calls Try.prog 21 #[v2, .slice (some ⟨b, o1, none⟩) (n - q) (cap - q)] w2 _) := IH.out w2 v2 (dl ++ ehead 6 x) b o1 (n - q) (cap - q) (l.drop q) c OW.out (EX.out.bytesAt HR1.out HNE.out) (fun e => ne_after EX.out (fun e2 => HNE.out e2.symm) HLT.out e.symm) (by omega) (by omega) (by rw [List.length_append]; have := HEH.out; omega) HC.out
  go_wp2_with fail
  refine Calls.mono HI.out ?_
  clear HI
  rintro e w3 ⟨v3, off3, o3, rfl, en, ow3, ex3, b3⟩
  have EN : Hid (Enc f (l.drop q) o3) := en
  have OW3 : Hid (Own w3 v3 (dl ++ ehead 6 x ++ o3)) := ow3
  have EX3 : Hid (Ext w2 v2 (dl ++ ehead 6 x).length w3 v3 (dl ++ ehead 6 x ++ o3).length) := ex3
  have B3 : Hid (BytesAt w3 (some ⟨b, off3, none⟩) (n - q - c) ((l.drop q).drop c)) := b3
  clear en ow3 ex3 b3
  go_wp2_with fail
  go_ret2
  refine ⟨v3, off3, ehead 6 x ++ o3, ?_, Enc_mk6 HM.out HX.out HQ.out EN.out, by rw [← List.append_assoc]; exact OW3.out, by rw [← List.append_assoc]; exact Ext.after HBL.out (EX.out.trans EX3.out), ?_⟩
  · rw [Nat.sub_sub, Nat.sub_sub]
    rfl
  · have := B3.out
    rw [List.drop_drop, Nat.sub_sub] at this
    exact this

set_option maxHeartbeats 1000000 in
set_option maxRecDepth 100000 in
theorem canon_5 (f : Nat) (IH : Hid (CanonC f)) (w : World) (v : Value) (dl : List UInt8) (b off n cap : Nat) (l : List UInt8) (q x c : Nat) (HV : Hid (Own w v dl)) (HB : Hid (BytesAt w (some ⟨b, off, none⟩) n l)) (HNE : Hid (v.ownBlock ≠ some b))
    (hcap : n ≤ cap) (hcap2 : cap ≤ 9223372036854775807) (hdl : dl.length + n ≤ 1099511627776) (hx : x < 18446744073709551616) (hqn : q + c ≤ n) (HM : Hid (hmaj l = 5)) (HX : Hid (harg l = x)) (HQ : Hid (hl l = q)) (hq1 : 1 ≤ q) (_HEH : Hid ((ehead 5 x).length ≤ q))
    (o1 : Nat) (HR : Hid (BytesAt w (some ⟨b, o1, none⟩) (n - q) (l.drop q)))
    (HH : Hid (Calls Try.prog 26 #[.slice (some ⟨b, off, none⟩) n cap] w fun e w' => e = .returned (.tuple #[.int .u8 5, .int .u64 (x : Nat), .slice (some ⟨b, o1, none⟩) (n - q) (cap - q)]) ∧ Below w.heap.size w w')) (HC : Hid (seqLen (itemLen f) (2 * x) (l.drop q) = some c)) :
    Calls Try.prog 21 #[v, .slice (some ⟨b, off, none⟩) n cap] w (CanonPost (f + 1) w v dl b n cap l (q + c)) := by
  go_enter Try.func21, Try.ntmps21
  go_wp2_with fail
  refine Calls.mono HH.out ?_
  clear HH
  rintro e w1 ⟨rfl, hbl⟩
  have HV1 : Hid (Own w1 v dl) := HV.out.below hbl
  have HR1 : Hid (BytesAt w1 (some ⟨b, o1, none⟩) (n - q) (l.drop q)) := HR.out.mono hbl
  have HBL : Hid (Below w.heap.size w w1) := hbl
  have HLT : Hid (b < w1.heap.size) := Nat.lt_of_lt_of_le (HB.out.lt (by omega)) hbl.size
  clear hbl
  have HI : Hid (Calls Try.prog 28 #[v, .int .u64 (x : Nat), .slice (some ⟨b, o1, none⟩) (n - q) (cap - q)] w1 _) := map_walk f IH w1 v dl b o1 (n - q) (cap - q) (l.drop q) x c HV1.out HR1.out HNE.out HLT.out (by omega) (by omega) (by omega) hx HC.out
  go_wp2_with fail
  refine Calls.mono HI.out ?_
  clear HI
  rintro e w3 ⟨v3, off3, ps, qs, rfl, hpl, hse, hpe, has, ow3, ex3, b3⟩
  have EN : Hid (Enc (f + 1) l (ehead 5 x ++ (flat qs).flatten)) := Enc_mk5 HM.out HX.out HQ.out hpl hse hpe has
  have OW3 : Hid (Own w3 v3 (dl ++ (ehead 5 x ++ (flat qs).flatten))) := ow3
  have EX3 : Hid (Ext w1 v dl.length w3 v3 (dl ++ (ehead 5 x ++ (flat qs).flatten)).length) := ex3
  have B3 : Hid (BytesAt w3 (some ⟨b, off3, none⟩) (n - q - c) ((l.drop q).drop c)) := b3
  clear ow3 ex3 b3 hpl hse hpe has
  go_wp2_with fail
  go_ret2
  refine ⟨v3, off3, ehead 5 x ++ (flat qs).flatten, ?_, EN.out, OW3.out, Ext.after HBL.out EX3.out, ?_⟩
  · rw [Nat.sub_sub, Nat.sub_sub]
    rfl
  · have := B3.out
    rw [List.drop_drop, Nat.sub_sub] at this
    exact this

set_option maxHeartbeats 1000000 in
set_option maxRecDepth 100000 in
theorem canon_4 (f : Nat) (IH : Hid (CanonC f)) (w : World) (v : Value) (dl : List UInt8) (b off n cap : Nat) (l : List UInt8) (q x c : Nat) (HV : Hid (Own w v dl)) (HB : Hid (BytesAt w (some ⟨b, off, none⟩) n l)) (HNE : Hid (v.ownBlock ≠ some b))
    (hcap : n ≤ cap) (hcap2 : cap ≤ 9223372036854775807) (hdl : dl.length + n ≤ 1099511627776) (hx : x < 18446744073709551616) (hqn : q + c ≤ n) (HM : Hid (hmaj l = 4)) (HX : Hid (harg l = x)) (HQ : Hid (hl l = q)) (hq1 : 1 ≤ q) (HEH : Hid ((ehead 4 x).length ≤ q))
    (o1 : Nat) (HR : Hid (BytesAt w (some ⟨b, o1, none⟩) (n - q) (l.drop q)))
    (HH : Hid (Calls Try.prog 26 #[.slice (some ⟨b, off, none⟩) n cap] w fun e w' => e = .returned (.tuple #[.int .u8 4, .int .u64 (x : Nat), .slice (some ⟨b, o1, none⟩) (n - q) (cap - q)]) ∧ Below w.heap.size w w')) (HC : Hid (seqLen (itemLen f) x (l.drop q) = some c)) :
    Calls Try.prog 21 #[v, .slice (some ⟨b, off, none⟩) n cap] w (CanonPost (f + 1) w v dl b n cap l (q + c)) := by
  go_enter Try.func21, Try.ntmps21
  go_wp2_with fail
  refine Calls.mono HH.out ?_
  clear HH
  rintro e w1 ⟨rfl, hbl⟩
  have HV1 : Hid (Own w1 v dl) := HV.out.below hbl
  have HR1 : Hid (BytesAt w1 (some ⟨b, o1, none⟩) (n - q) (l.drop q)) := HR.out.mono hbl
  have HBL : Hid (Below w.heap.size w w1) := hbl
  have HLT : Hid (b < w1.heap.size) := Nat.lt_of_lt_of_le (HB.out.lt (by omega)) hbl.size
  clear hbl
  have HA : Hid (Calls Try.prog 27 #[v, .int .u8 4, .int .u64 (x : Nat)] w1 _) := appendHead_any v dl 4 x w1 HV1.out (by omega) hx (by omega)
  have hlen : l.length = n := HB.out.len
  go_wp2_with fail
  refine Calls.mono HA.out ?_
  clear HA
  rintro e w2 ⟨v2, rfl, ow, ex⟩
  have HM0 : Hid (M4 f w1 v dl b (n - q) (l.drop q) x 0 0 c o1 [] v2 w2) := ⟨Mid.start HC.out, rfl, by simpa using ow, by simpa using ex, by simpa using ex.bytesAt HR1.out HNE.out⟩
  clear ow ex
  go_wp2_with fail
  go_loopw [0, 8, 55] (fun dv it kv wr => ∃ j c' d off' os vr, vr = dv ∧ j ≤ x ∧ kv = .int .u64 ((j : Nat) : Int) ∧ it = .slice (some ⟨b, off', none⟩) (n - q - c') (cap - q - c') ∧ Hid (M4 f w1 v dl b (n - q) (l.drop q) x j c' d off' os vr wr)) (fun _ _ kv _ => x - (intOf kv).toNat)
  case atStart => exact ⟨0, 0, c, o1, [], _, rfl, by omega, rfl, rfl, HM0⟩
  case round =>
    obtain ⟨j, c', d, off', os, vr, rfl, hj, rfl, rfl, HJ⟩ := hrel
    clear HM0
    have hm2 := HJ.out.mid.le
    rw [List.length_drop, hlen] at hm2
    by_cases hlt : j < x
    · have hm := HJ.out.mid
      rw [show x - j = (x - (j + 1)) + 1 from by omega] at hm
      obtain ⟨a1, d1, ha1, hd1, hm1⟩ := hm.next
      have hln : (dl ++ (ehead 4 x ++ os.flatten)).length ≤ dl.length + (q + c') := by
        rw [List.length_append, List.length_append]
        have t1 := HEH.out
        have t2 := SeqEnc.len (Enc_len f) _ _ _ c' HJ.out.enc HJ.out.mid.1
        omega
      have HI : Hid (Calls Try.prog 21 #[vr, .slice (some ⟨b, off', none⟩) (n - q - c') (cap - q - c')] _ _) := IH.out _ vr (dl ++ (ehead 4 x ++ os.flatten)) b off' (n - q - c') (cap - q - c') ((l.drop q).drop c') a1 HJ.out.own HJ.out.bytes (fun e => ne_after HJ.out.ext (fun e2 => HNE.out e2.symm) HLT.out e.symm) (by omega) (by omega) (by omega) ha1
      have HA1 : Hid (itemLen f ((l.drop q).drop c') = some a1) := ha1
      clear hm hm1 ha1 hln
      go_wp2_with fail
      refine Calls.mono HI.out ?_
      clear HI
      rintro e w3 ⟨v3, off3, o3, rfl, en, ow3, ex3, b3⟩
      obtain ⟨d', hN⟩ := HJ.out.next hlt HA1.out en ow3 ex3 b3
      have HN : Hid (M4 f w1 v dl b (n - q) (l.drop q) x (j + 1) (c' + a1) d' off3 (os ++ [o3]) v3 w3) := hN
      clear hN en ow3 ex3 b3 HJ HA1
      go_wp2_with fail
      go_round
      case rel => exact ⟨j + 1, c' + a1, d', off3, _, v3, rfl, by omega, by go_num, slice_eq (by omega) (by omega), HN⟩
      case measure => simp [intOf]; omega
    · obtain rfl : j = x := by omega
      have ec : c' = c := by
        have := HJ.out.mid.1
        rw [HC.out] at this
        exact (Option.some.inj this).symm
      subst ec
      go_wp2_with fail
      go_ret2
      refine ⟨vr, off', ehead 4 j ++ os.flatten, ?_, Enc_mk4 HM.out HX.out HQ.out HJ.out.enc, HJ.out.own, Ext.after HBL.out HJ.out.ext, ?_⟩
      · rw [Nat.sub_sub, Nat.sub_sub]
        rfl
      · have := HJ.out.bytes
        rw [List.drop_drop, Nat.sub_sub] at this
        exact this

set_option maxHeartbeats 1000000 in
set_option maxRecDepth 100000 in
theorem canon_2 (f : Nat) (w : World) (v : Value) (dl : List UInt8) (b off n cap : Nat) (l : List UInt8) (q x : Nat) (HV : Hid (Own w v dl)) (HB : Hid (BytesAt w (some ⟨b, off, none⟩) n l)) (HNE : Hid (v.ownBlock ≠ some b))
    (hcap : n ≤ cap) (hcap2 : cap ≤ 9223372036854775807) (hdl : dl.length + n ≤ 1099511627776) (hx : x < 18446744073709551616) (hqn : q + x ≤ n) (HM : Hid (hmaj l = 2)) (HX : Hid (harg l = x)) (HQ : Hid (hl l = q)) (hq1 : 1 ≤ q) (HEH : Hid ((ehead 2 x).length ≤ q))
    (o1 : Nat) (HR : Hid (BytesAt w (some ⟨b, o1, none⟩) (n - q) (l.drop q)))
    (HH : Hid (Calls Try.prog 26 #[.slice (some ⟨b, off, none⟩) n cap] w fun e w' => e = .returned (.tuple #[.int .u8 2, .int .u64 (x : Nat), .slice (some ⟨b, o1, none⟩) (n - q) (cap - q)]) ∧ Below w.heap.size w w')) :
    Calls Try.prog 21 #[v, .slice (some ⟨b, off, none⟩) n cap] w (CanonPost (f + 1) w v dl b n cap l (q + x)) := by
  go_enter Try.func21, Try.ntmps21
  go_wp2_with fail
  refine Calls.mono HH.out ?_
  clear HH
  rintro e w1 ⟨rfl, hbl⟩
  have HV1 : Hid (Own w1 v dl) := HV.out.below hbl
  have HR1 : Hid (BytesAt w1 (some ⟨b, o1, none⟩) (n - q) (l.drop q)) := HR.out.mono hbl
  have HBL : Hid (Below w.heap.size w w1) := hbl
  have HLT : Hid (b < w1.heap.size) := Nat.lt_of_lt_of_le (HB.out.lt (by omega)) hbl.size
  clear hbl
  have HA : Hid (∀ w0, Below w1.heap.size w1 w0 → Calls Try.prog 27 #[v, .int .u8 2, .int .u64 (x : Nat)] w0 fun e w' => ∃ v', e = .returned v' ∧ Own w' v' (dl ++ ehead 2 x) ∧ Ext w1 v dl.length w' v' (dl ++ ehead 2 x).length) := by
    intro w0 h0
    refine (appendHead_any v dl 2 x w0 (HV1.out.below h0) (by omega) hx (by omega)).mono ?_
    rintro e w' ⟨v', rfl, ow, ex⟩
    exact ⟨v', rfl, ow, Ext.after h0 ex⟩
  have hbd : (dl ++ ehead 2 x).length + x ≤ 140737488355328 := by
    rw [List.length_append]
    have := HEH.out
    omega
  have i1 : (x : Int) ≤ ((n - q : Nat) : Int) := by omega
  have i2 : (x : Int) ≤ ((cap - q : Nat) : Int) := by omega
  by_cases h3 : cap - q = x
  · have hnx : n - q = x := by omega
    skip
    go_wp2_with fail
    go_region_held3 (fun _ => True) (trivial) (first
      | (go_at_call 27; refine (HA.out _ ?_).mono ?_; (first | exact Below.refl _ _ | exact Below.drew1 (Below.refl _ _)); rintro e w2 ⟨v2, rfl, ow, ex⟩)
      | ((refine step_append_mine _ (by rfl) _ _ (by rfl) v2 (dl ++ ehead 2 x) (by rfl) ow (some ⟨b, o1, none⟩) x _ ((l.drop q).take x) (by rfl) ((ex.bytesAt HR1.out HNE.out).front x (by omega)) (fun h => by simp at h) hbd ?_; intro v3 w3 ow3 ex3)))
    have OW3 : Hid (Own w3 v3 (dl ++ ehead 2 x ++ (l.drop q).take x)) := ow3
    have EX3 : Hid (Ext w1 v dl.length w3 v3 (dl ++ ehead 2 x ++ (l.drop q).take x).length) := ex.trans ex3
    have HB3 : Hid (BytesAt w3 (some ⟨b, o1, none⟩) (n - (q + x)) (l.drop (q + x))) := by show BytesAt _ _ _ _; rw [show n - (q + x) = 0 from by omega]; exact ⟨by rw [List.length_drop, HB.out.len]; omega, fun h => absurd h (by omega)⟩
    clear ow ex ow3 ex3
    go_wp2_with fail
    go_ret2
    refine ⟨v3, o1, ehead 2 x ++ (l.drop q).take x, ?_, Enc_mk23 HM.out HX.out HQ.out (by omega), by rw [← List.append_assoc]; exact OW3.out, by rw [← List.append_assoc]; exact Ext.after HBL.out EX3.out, HB3.out⟩
    exact ret2_eq rfl (slice_eq (by omega) (by omega))
  · have hcut := HR1.out.cut (cap := cap - q) (by omega) x (by omega)
    rw [cutAt_some h3] at hcut
    go_wp2_with fail
    go_region_held3 (fun _ => True) (trivial) (first
      | (go_at_call 27; refine (HA.out _ ?_).mono ?_; (first | exact Below.refl _ _ | exact Below.drew1 (Below.refl _ _)); rintro e w2 ⟨v2, rfl, ow, ex⟩)
      | ((refine step_append_mine _ (by rfl) _ _ (by rfl) v2 (dl ++ ehead 2 x) (by rfl) ow (some ⟨b, o1, none⟩) x _ ((l.drop q).take x) (by rfl) ((ex.bytesAt HR1.out HNE.out).front x (by omega)) (fun h => by simp at h) hbd ?_; intro v3 w3 ow3 ex3)))
    have OW3 : Hid (Own w3 v3 (dl ++ ehead 2 x ++ (l.drop q).take x)) := ow3
    have EX3 : Hid (Ext w1 v dl.length w3 v3 (dl ++ ehead 2 x ++ (l.drop q).take x).length) := ex.trans ex3
    have HB3 : Hid (BytesAt w3 (some ⟨b, (o1 + x), none⟩) (n - (q + x)) (l.drop (q + x))) := by show BytesAt _ _ _ _; rw [← List.drop_drop, show n - (q + x) = n - q - x from by omega]; exact EX3.out.bytesAt hcut HNE.out
    clear ow ex ow3 ex3 hcut
    go_wp2_with fail
    go_ret2
    refine ⟨v3, (o1 + x), ehead 2 x ++ (l.drop q).take x, ?_, Enc_mk23 HM.out HX.out HQ.out (by omega), by rw [← List.append_assoc]; exact OW3.out, by rw [← List.append_assoc]; exact Ext.after HBL.out EX3.out, HB3.out⟩
    exact ret2_eq rfl (slice_eq (by omega) (by omega))

set_option maxHeartbeats 1000000 in
set_option maxRecDepth 100000 in
theorem canon_3 (f : Nat) (w : World) (v : Value) (dl : List UInt8) (b off n cap : Nat) (l : List UInt8) (q x : Nat) (HV : Hid (Own w v dl)) (HB : Hid (BytesAt w (some ⟨b, off, none⟩) n l)) (HNE : Hid (v.ownBlock ≠ some b))
    (hcap : n ≤ cap) (hcap2 : cap ≤ 9223372036854775807) (hdl : dl.length + n ≤ 1099511627776) (hx : x < 18446744073709551616) (hqn : q + x ≤ n) (HM : Hid (hmaj l = 3)) (HX : Hid (harg l = x)) (HQ : Hid (hl l = q)) (hq1 : 1 ≤ q) (HEH : Hid ((ehead 3 x).length ≤ q))
    (o1 : Nat) (HR : Hid (BytesAt w (some ⟨b, o1, none⟩) (n - q) (l.drop q)))
    (HH : Hid (Calls Try.prog 26 #[.slice (some ⟨b, off, none⟩) n cap] w fun e w' => e = .returned (.tuple #[.int .u8 3, .int .u64 (x : Nat), .slice (some ⟨b, o1, none⟩) (n - q) (cap - q)]) ∧ Below w.heap.size w w')) :
    Calls Try.prog 21 #[v, .slice (some ⟨b, off, none⟩) n cap] w (CanonPost (f + 1) w v dl b n cap l (q + x)) := by
  go_enter Try.func21, Try.ntmps21
  go_wp2_with fail
  refine Calls.mono HH.out ?_
  clear HH
  rintro e w1 ⟨rfl, hbl⟩
  have HV1 : Hid (Own w1 v dl) := HV.out.below hbl
  have HR1 : Hid (BytesAt w1 (some ⟨b, o1, none⟩) (n - q) (l.drop q)) := HR.out.mono hbl
  have HBL : Hid (Below w.heap.size w w1) := hbl
  have HLT : Hid (b < w1.heap.size) := Nat.lt_of_lt_of_le (HB.out.lt (by omega)) hbl.size
  clear hbl
  have HA : Hid (∀ w0, Below w1.heap.size w1 w0 → Calls Try.prog 27 #[v, .int .u8 3, .int .u64 (x : Nat)] w0 fun e w' => ∃ v', e = .returned v' ∧ Own w' v' (dl ++ ehead 3 x) ∧ Ext w1 v dl.length w' v' (dl ++ ehead 3 x).length) := by
    intro w0 h0
    refine (appendHead_any v dl 3 x w0 (HV1.out.below h0) (by omega) hx (by omega)).mono ?_
    rintro e w' ⟨v', rfl, ow, ex⟩
    exact ⟨v', rfl, ow, Ext.after h0 ex⟩
  have hbd : (dl ++ ehead 3 x).length + x ≤ 140737488355328 := by
    rw [List.length_append]
    have := HEH.out
    omega
  have i1 : (x : Int) ≤ ((n - q : Nat) : Int) := by omega
  have i2 : (x : Int) ≤ ((cap - q : Nat) : Int) := by omega
  by_cases h3 : cap - q = x
  · have hnx : n - q = x := by omega
    skip
    go_wp2_with fail
    go_region_held3 (fun _ => True) (trivial) (first
      | (go_at_call 27; refine (HA.out _ ?_).mono ?_; (first | exact Below.refl _ _ | exact Below.drew1 (Below.refl _ _)); rintro e w2 ⟨v2, rfl, ow, ex⟩)
      | ((refine step_append_mine _ (by rfl) _ _ (by rfl) v2 (dl ++ ehead 3 x) (by rfl) ow (some ⟨b, o1, none⟩) x _ ((l.drop q).take x) (by rfl) ((ex.bytesAt HR1.out HNE.out).front x (by omega)) (fun h => by simp at h) hbd ?_; intro v3 w3 ow3 ex3)))
    have OW3 : Hid (Own w3 v3 (dl ++ ehead 3 x ++ (l.drop q).take x)) := ow3
    have EX3 : Hid (Ext w1 v dl.length w3 v3 (dl ++ ehead 3 x ++ (l.drop q).take x).length) := ex.trans ex3
    have HB3 : Hid (BytesAt w3 (some ⟨b, o1, none⟩) (n - (q + x)) (l.drop (q + x))) := by show BytesAt _ _ _ _; rw [show n - (q + x) = 0 from by omega]; exact ⟨by rw [List.length_drop, HB.out.len]; omega, fun h => absurd h (by omega)⟩
    clear ow ex ow3 ex3
    go_wp2_with fail
    go_ret2
    refine ⟨v3, o1, ehead 3 x ++ (l.drop q).take x, ?_, Enc_mk23 HM.out HX.out HQ.out (by omega), by rw [← List.append_assoc]; exact OW3.out, by rw [← List.append_assoc]; exact Ext.after HBL.out EX3.out, HB3.out⟩
    exact ret2_eq rfl (slice_eq (by omega) (by omega))
  · have hcut := HR1.out.cut (cap := cap - q) (by omega) x (by omega)
    rw [cutAt_some h3] at hcut
    go_wp2_with fail
    go_region_held3 (fun _ => True) (trivial) (first
      | (go_at_call 27; refine (HA.out _ ?_).mono ?_; (first | exact Below.refl _ _ | exact Below.drew1 (Below.refl _ _)); rintro e w2 ⟨v2, rfl, ow, ex⟩)
      | ((refine step_append_mine _ (by rfl) _ _ (by rfl) v2 (dl ++ ehead 3 x) (by rfl) ow (some ⟨b, o1, none⟩) x _ ((l.drop q).take x) (by rfl) ((ex.bytesAt HR1.out HNE.out).front x (by omega)) (fun h => by simp at h) hbd ?_; intro v3 w3 ow3 ex3)))
    have OW3 : Hid (Own w3 v3 (dl ++ ehead 3 x ++ (l.drop q).take x)) := ow3
    have EX3 : Hid (Ext w1 v dl.length w3 v3 (dl ++ ehead 3 x ++ (l.drop q).take x).length) := ex.trans ex3
    have HB3 : Hid (BytesAt w3 (some ⟨b, (o1 + x), none⟩) (n - (q + x)) (l.drop (q + x))) := by show BytesAt _ _ _ _; rw [← List.drop_drop, show n - (q + x) = n - q - x from by omega]; exact EX3.out.bytesAt hcut HNE.out
    clear ow ex ow3 ex3 hcut
    go_wp2_with fail
    go_ret2
    refine ⟨v3, (o1 + x), ehead 3 x ++ (l.drop q).take x, ?_, Enc_mk23 HM.out HX.out HQ.out (by omega), by rw [← List.append_assoc]; exact OW3.out, by rw [← List.append_assoc]; exact Ext.after HBL.out EX3.out, HB3.out⟩
    exact ret2_eq rfl (slice_eq (by omega) (by omega))

end Go.Proofs.Qxb6604654a

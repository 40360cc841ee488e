/-
  appendCanonicalMap: the contract, over appendCanonical's at one depth less.
-/
import Derived.Test.Qxb6604654aMapInv
import Derived.Test.Qxb6604654aAppHead
import Derived.Maps.AppendAt
import Derived.Deep.RegionHeld3
namespace Go.Proofs.Qxb6604654a
open Go.RowKit Go.Sort

theorem Try.info64 : (Try.prog.info? 64).map (fun i => (i.zero, i.size, i.bytes)) = some (some (.agg #[.slice none 0 0, .slice none 0 0]), 2, 48) := by kernel_rfl

def MapPost (f : Nat) (w : World) (v : Value) (dl : List UInt8) (b n cap : Nat) (l : List UInt8) (x c : Nat) (e : Ending) (w' : World) : Prop :=
  ∃ v' off' ps qs, e = .returned (.tuple #[v', .slice (some ⟨b, off', none⟩) (n - c) (cap - c)]) ∧ ps.length = x ∧ SeqEnc (Enc f) (itemLen f) (2 * x) l (flat ps) ∧ qs.Perm ps ∧ Asc qs ∧ Own w' v' (dl ++ (ehead 5 x ++ (flat qs).flatten)) ∧
    Ext w v dl.length w' v' (dl ++ (ehead 5 x ++ (flat qs).flatten)).length ∧ BytesAt w' (some ⟨b, off', none⟩) (n - c) (l.drop c)

/-- The new pair's two cells. -/
theorem pair_new (w : World) (v1 v2 : Value) : ∀ j u, [v1, v2][j]? = some u → (w.alloc (.cells #[v1, v2] 64)).cell? ((⟨w.heap.size, 0, none⟩ : Addr).add j) = some u := by
  intro j u hu
  have hj : j = 0 ∨ j = 1 := by
    have := (List.getElem?_eq_some_iff.1 hu).1
    simp at this
    omega
  rcases hj with rfl | rfl <;> simp at hu <;> subst hu <;> simp [Addr.add]

theorem take_len_le (qs : List KV) (i : Nat) : (flat ((qs.take i).map plain)).flatten.length ≤ (flat (qs.map plain)).flatten.length := by
  have e : flat (qs.map plain) = flat ((qs.take i).map plain) ++ flat ((qs.drop i).map plain) := by rw [← flat_append, ← List.map_append, List.take_append_drop]
  rw [e, List.flatten_append, List.length_append]
  omega
theorem ne_after {w w' : World} {v v' : Value} {n n' B : Nat} (h : Ext w v n w' v' n') (hne : some B ≠ v.ownBlock) (hB : B < w.heap.size) : some B ≠ v'.ownBlock := by
  rcases h.place with e | e
  · rw [e]
    exact hne
  · intro h2
    have := e B h2.symm
    omega
theorem kvAt_mem (qs : List KV) (i : Nat) (h : i < qs.length) : kvAt qs i ∈ qs := by
  rw [kvAt_lt qs i h]
  exact List.getElem_mem h
theorem slice_eq {a : Option Addr} {n m c d : Nat} (h1 : n = m) (h2 : c = d) : Value.slice a n c = .slice a m d := by rw [h1, h2]

set_option maxHeartbeats 1000000 in
set_option maxRecDepth 100000 in
theorem map_walk (f : Nat) (IH : Hid (CanonC f)) (w : World) (v : Value) (dl : List UInt8) (b off n cap : Nat) (l : List UInt8) (x c : Nat) (hv : Own w v dl) (hb : BytesAt w (some ⟨b, off, none⟩) n l) (hne : v.ownBlock ≠ some b) (hbw : b < w.heap.size)
    (hcap : n ≤ cap) (hcap2 : cap ≤ 9223372036854775807) (hdl : dl.length + n ≤ 1099511627776) (hx : x < 18446744073709551616) (hs : seqLen (itemLen f) (2 * x) l = some c) :
    Calls Try.prog 28 #[v, .int .u64 (x : Nat), .slice (some ⟨b, off, none⟩) n cap] w (MapPost f w v dl b n cap l x c) := by
  have hlen := hb.len
  have HM : Hid (M1 f w b n l x 0 0 c off [] (.slice none 0 0) w) := M1.start hs hb
  have HV : Hid (Own w v dl) := hv
  have HS : Hid _ := hs
  obtain ⟨i0, hi, hz0, hz1, hz2⟩ := info_parts Try.info64
  have hle : 2 * x ≤ c ∧ c ≤ n := by
    have := HM.out.mid.le
    rw [hlen] at this
    omega
  have HNEB : Hid (v.ownBlock ≠ some b) := hne
  clear hv hb hs hne
  go_enter Try.func28, Try.ntmps28
  go_wp2_with fail
  go_loopw [2, 8, 14] (fun it pvs kv wr => ∃ j c' d off' ps pv, pv = pvs ∧ j ≤ x ∧ kv = .int .u64 ((j : Nat) : Int) ∧ it = .slice (some ⟨b, off', none⟩) (n - c') (cap - c') ∧ Hid (M1 f w b n l x j c' d off' ps pv wr)) (fun _ _ kv _ => x - (intOf kv).toNat)
  case atStart => exact ⟨0, 0, c, off, [], _, rfl, by omega, rfl, rfl, HM⟩
  case round =>
    obtain ⟨j, c', d, off', ps, pv, rfl, hj, rfl, rfl, HJ⟩ := hrel
    clear HM
    by_cases hlt : j < x
    · have hm := HJ.out.mid
      have hm2 := hm.le
      rw [hlen] at hm2
      rw [show 2 * x - 2 * j = (2 * x - 2 * j - 1) + 1 from by omega] at hm
      obtain ⟨a1, d1, ha1, hd1, hm1⟩ := hm.next
      have hm1' := hm1.le
      rw [show 2 * x - 2 * j - 1 = (2 * x - 2 * (j + 1)) + 1 from by omega] at hm1
      obtain ⟨a2, d2, ha2, hd2, _⟩ := hm1.next
      have HA1 : Hid _ := ha1
      have HA2 : Hid _ := ha2
      have HC : Hid _ := IH.out _ (.slice none 0 0) [] b off' (n - c') (cap - c') (l.drop c') a1 (Own.nil _) HJ.out.bytes (by simp [Value.ownBlock]) (by omega) (by omega) (by simp; omega) ha1
      clear hm hm1 ha1 ha2 hm1'
      go_wp2_with fail
      refine Calls.mono HC.out ?_
      clear HC
      rintro e w1 ⟨v1, off1, o1, rfl, e1, ow1, x1, b1⟩
      rw [List.nil_append] at ow1 x1
      obtain ⟨p1, cp1, ev1, _, _⟩ := ow1.shape
      subst ev1
      have E1 : Hid _ := e1
      have OW1 : Hid _ := ow1
      have X1 : Hid _ := x1
      rw [List.drop_drop] at b1
      have HC : Hid _ := IH.out _ (.slice none 0 0) [] b off1 (n - c' - a1) (cap - c' - a1) (l.drop (c' + a1)) a2 (Own.nil _) b1 (by simp [Value.ownBlock]) (by omega) (by omega) (by simp; omega) HA2.out
      clear e1 ow1 x1 b1
      go_wp2_with fail
      refine Calls.mono HC.out ?_
      clear HC
      rintro e w2 ⟨v2, off2, o2, rfl, e2, ow2, x2, b2⟩
      rw [List.nil_append] at ow2 x2
      obtain ⟨p2, cp2, ev2, _, _⟩ := ow2.shape
      subst ev2
      have E2 : Hid _ := e2
      have OW2 : Hid _ := ow2
      have X2 : Hid _ := x2
      have B2 : Hid _ := b2
      clear e2 ow2 x2 b2
      have hpl : ps.length = j := HJ.out.len
      have one1 : (Value.slice p1 o1.length cp1).oneCell' = true := own_one OW1.out
      have one2 : (Value.slice p2 o2.length cp2).oneCell' = true := own_one OW2.out
      have hone : ∀ u ∈ [Value.slice p1 o1.length cp1, Value.slice p2 o2.length cp2], u.oneCell' = true := by
        intro u hu
        simp only [List.mem_cons, List.not_mem_nil, or_false] at hu
        rcases hu with rfl | rfl
        · exact one1
        · exact one2
      have HONE : Hid _ := hone
      have HSZ : Hid (w.heap.size ≤ w2.heap.size) := Nat.le_trans HJ.out.below.size (Nat.le_trans X1.out.nilBelow2.size X2.out.nilBelow2.size)
      have HROW : Hid (w2.ownsRow w.heap.size 64 2 pv ps.length (cellsKV ps)) := row_below (row_below HJ.out.row X1.out.nilBelow2) X2.out.nilBelow2
      clear hone
      go_wp2_with (at_builtin; refine wpList_append_own _ rfl _ _ 63 rfl w.heap.size 64 i0 _ 2 48 Try.underlying63 hi hz0 hz1 hz2 rfl (by decide) pv ps.length (cellsKV ps) rfl (row_below HROW.out ((Below.refl _ _).alloc (Nat.le_refl _) _)) ⟨w2.heap.size, 0, none⟩ 1 1 [.slice p1 o1.length cp1, .slice p2 o2.length cp2] rfl rfl (pair_new w2 _ _) HONE.out ?c1 ?c2 ?c3 ?_)
      case c1 => unfold maxLen; omega
      case c2 => omega
      case c3 => have := HSZ.out; simp; omega
      intro pv' w4 hrow hgr _
      have b2 := B2.out
      rw [List.drop_drop, show n - c' - a1 - a2 = n - (c' + a1 + a2) from by omega] at b2
      obtain ⟨d', hN⟩ := HJ.out.next hlt HA1.out E1.out OW1.out X1.out HA2.out E2.out OW2.out X2.out b2 ((Below.refl _ _).alloc (Nat.le_refl _) _) (pv' := pv') (by rw [hpl]; exact hrow) hgr hbw
      have HN : Hid _ := hN
      clear b2 hN hrow hgr HJ HA1 HA2 E1 E2 OW1 OW2 X1 X2 B2 HONE HSZ HROW
      go_wp2_with fail
      go_round
      case rel => exact ⟨j + 1, c' + a1 + a2, d', off2, _, _, rfl, by omega, by go_num, slice_eq (by omega) (by omega), HN⟩
      case measure => simp [intOf]; omega
    · obtain rfl : j = x := by omega
      have ec : c' = c := by
        have := HJ.out.mid.1
        rw [HS.out] at this
        exact (Option.some.inj this).symm
      subst ec
      have HSORT : Hid _ := sort_pairs ps w.heap.size pv _ HJ.out.row (fun p hp => (HJ.out.new p hp).1) (by rw [HJ.out.len]; omega)
      go_wp2_with fail
      refine Calls.mono HSORT.out ?_
      clear HSORT
      rintro e ws ⟨rfl, qs, hperm, hasc, hrow, hgr⟩
      have HSO : Hid (Sorted ws v dl w.heap.size qs pv) := ⟨(HV.out.below HJ.out.below).grownBy HJ.out.row hgr, fun g hg => HV.out.lt hg, hrow, fun p hp => by
        obtain ⟨t1, t2, t3⟩ := HJ.out.new p (hperm.mem_iff.1 hp)
        exact ⟨t1.grownBy HJ.out.row hgr, t2, t3⟩⟩
      have HBS : Hid (Below w.heap.size w ws) := HJ.out.below.grown hgr HJ.out.below.size (fun g hg => (HJ.out.row.lt g hg).1)
      have HQL : Hid (qs.length = j) := hperm.length_eq.trans HJ.out.len
      have HASC : Hid (qs.Pairwise fun p q => leB p.1.2 q.1.2) := hasc
      have HB : Hid (∀ i, i < qs.length → (flat ((qs.take i).map plain)).flatten.length + (kvAt qs i).1.2.length + (kvAt qs i).2.2.length ≤ c') := by
        intro i hi2
        have t1 := take_len_le qs (i + 1)
        rw [take_succ_plain qs i hi2, List.length_append, List.length_append] at t1
        have t2 := flat_perm_len (hperm.map plain)
        have t3 := SeqEnc.len (Enc_len f) _ _ _ c' HJ.out.enc HJ.out.mid.1
        omega
      have HPERM : Hid (qs.Perm ps) := hperm
      have HBY : Hid (BytesAt ws (some ⟨b, off', none⟩) (n - c') (l.drop c')) := by
        have t := HJ.out.bytes
        refine ⟨t.len, fun h0 => ?_⟩
        obtain ⟨b', off2, e, hc⟩ := t.cells h0
        refine ⟨b', off2, e, fun k hk => hgr.cell (hc k hk) ?_⟩
        simp only [Option.some.injEq, Addr.mk.injEq, and_true] at e
        obtain ⟨rfl, rfl⟩ := e
        intro h
        have := (HJ.out.row.lt b h.symm).1
        omega
      have HH : Hid (Calls Try.prog 27 #[v, .int .u8 5, .int .u64 (j : Nat)] ws _) := appendHead_any v dl 5 j ws HSO.out.own (by omega) hx (by omega)
      have hshape : ∃ aop capp, pv = .slice aop j capp := by
        rcases hrow.2 with ⟨rfl, h0⟩ | ⟨g, cap, cur, rfl, _⟩
        · exact ⟨none, 0, by rw [← HQL.out, h0]⟩
        · exact ⟨_, _, by rw [HQL.out]⟩
      obtain ⟨aop, capp, rfl⟩ := hshape
      clear hperm hasc hrow hgr
      go_wp2_with fail
      refine Calls.mono HH.out ?_
      clear HH
      rintro e wh ⟨v1, rfl, oh, eh⟩
      have HM2 : Hid (M2 ws v dl j qs 0 v1 wh) := ⟨by simpa [flat] using oh, by simpa [flat] using eh⟩
      clear oh eh
      go_wp2_with fail
      go_loopw [0, 40] (fun dv iv wr => ∃ i vr, vr = dv ∧ i ≤ j ∧ iv = .int .i64 ((i : Nat) : Int) ∧ Hid (M2 ws v dl j qs i vr wr)) (fun _ iv _ => j - (intOf iv).toNat)
      case atStart => exact ⟨0, _, rfl, by omega, rfl, HM2⟩
      case round =>
        obtain ⟨i, vr, rfl, hi', rfl, HI⟩ := hrel
        clear HM2
        by_cases hlt2 : i < j
        · have hk := HSO.out.keeps HI.out.ext
          obtain ⟨g, cap', ep, hq1, hq2, hc1, hc2⟩ := row_pair hk.1 (j := i) (by rw [HQL.out]; exact hlt2)
          simp only [Value.slice.injEq] at ep
          obtain ⟨rfl, hjq, rfl⟩ := ep
          clear hjq
          have hkv : OwnKV wr (kvAt qs i) := OwnKV.at hk.2 i
          generalize hkq : kvAt qs i = q at *
          obtain ⟨⟨kv, kl⟩, ⟨vv, vl⟩⟩ := q
          obtain ⟨ok, ov⟩ := hkv
          simp only at ok ov hc1 hc2
          obtain ⟨pk, ck, rfl, _, hpk⟩ := ok.shape
          obtain ⟨pv2, cv, rfl, _, hpv⟩ := ov.shape
          have HKQ : Hid _ := hkq
          have OK : Hid (Own wr (.slice pk kl.length ck) kl) := ok
          have OV : Hid (Own wr (.slice pv2 vl.length cv) vl) := ov
          rw [HQL.out] at hq1
          have hnew := World.new_ne wr ⟨g, i * 2, none⟩ hc1
          have hbd := HB.out i (by rw [HQL.out]; exact hlt2)
          rw [hkq] at hbd
          simp only at hbd
          have heh := (ehead_len 5 j).2
          have hLRlen : (dl ++ (ehead 5 j ++ (flat ((qs.take i).map plain)).flatten)).length = dl.length + ((ehead 5 j).length + (flat ((qs.take i).map plain)).flatten.length) := by rw [List.length_append, List.length_append]
          have hbound : (dl ++ (ehead 5 j ++ (flat ((qs.take i).map plain)).flatten)).length + (kl.length + vl.length) ≤ 140737488355328 := by omega
          have hoi := HI.out.own
          generalize hLR : dl ++ (ehead 5 j ++ (flat ((qs.take i).map plain)).flatten) = LR at hoi hbound
          have HLR : Hid _ := hLR
          have OVN : Hid ((Value.slice pv2 vl.length cv).ownBlock = vr.ownBlock → vl.length ≤ LR.length) := fun e => by
            cases hvb : (Value.slice pv2 vl.length cv).ownBlock with
            | none => rw [OV.out.len0 hvb]; exact Nat.zero_le _
            | some g2 =>
              have t1 := (HSO.out.new (kvAt qs i) (kvAt_mem qs i (by rw [HQL.out]; exact hlt2))).2.2 g2 (by rw [HKQ.out]; exact hvb)
              rw [hvb] at e
              rcases HI.out.ext.place with e2 | e2
              · have := HSO.out.low g2 (by rw [← e2]; exact e.symm)
                omega
              · have := e2 g2 e.symm
                have t2 := (HSO.out.new (kvAt qs i) (kvAt_mem qs i (by rw [HQL.out]; exact hlt2))).1.2
                rw [HKQ.out] at t2
                have := t2.lt hvb
                omega
          have OI : Hid (Own wr vr LR) := hoi
          clear hkq ok ov hk hbd heh hLRlen hoi hLR
          have HNE : Hid (some wr.heap.size ≠ vr.ownBlock) := fun e => by
            have := OI.out.lt e.symm
            omega
          go_wp2_with fail
          go_region_held3 (fun w' => w'.cell? ⟨wr.heap.size, 0, none⟩ = some (.slice pk kl.length ck) ∧ w'.cell? ⟨wr.heap.size, 1, none⟩ = some (.slice pv2 vl.length cv))
            (first | (simp; done) | exact ⟨eb.grown.cell (ea.grown.cell (by simp) HNE.out) (ne_after ea HNE.out (by simp)), eb.grown.cell (ea.grown.cell (by simp) HNE.out) (ne_after ea HNE.out (by simp))⟩ | exact ⟨ea.grown.cell (by simp) HNE.out, ea.grown.cell (by simp) HNE.out⟩)
            (first
              | ((refine step_append_mine _ (by rfl) _ _ (by rfl) va (LR ++ kl) (by rfl) oa pv2 vl.length cv vl (by rfl) (ea.keeps _ _ (OV.out.below (Below.drew1 ((Below.refl _ _).alloc (Nat.le_refl _) _))) OVN.out).bytes hpv (by rw [List.length_append]; omega) ?_; intro vb wb ob eb))
              | ((refine step_append_mine _ (by rfl) _ _ (by rfl) vr LR (by rfl) (OI.out.below (Below.drew1 ((Below.refl _ _).alloc (Nat.le_refl _) _))) pk kl.length ck kl (by rfl) (OK.out.below (Below.drew1 ((Below.refl _ _).alloc (Nat.le_refl _) _))).bytes hpk (by omega) ?_; intro va wa oa ea)))
          have hN : M2 ws v dl j qs (i + 1) vb wb := HI.out.next (by rw [HQL.out]; exact hlt2) (Below.drew1 ((Below.refl _ _).alloc (Nat.le_refl _) _)) (by rw [HKQ.out, HLR.out]; exact ea) (by rw [HKQ.out, HLR.out]; exact ob) (by rw [HKQ.out, HLR.out]; exact eb)
          have HN : Hid (M2 ws v dl j qs (i + 1) vb wb) := hN
          clear hN ea ob eb oa HKQ HLR OK OV OVN HNE OI HI
          go_wp2_with fail
          go_round
          case rel => exact ⟨i + 1, vb, rfl, by omega, by go_num, HN⟩
          case measure => simp [intOf]; omega
        · obtain rfl : i = j := by omega
          have ht : qs.take i = qs := List.take_of_length_le (by rw [HQL.out]; exact Nat.le_refl _)
          have hown := HI.out.own
          have hext := HI.out.ext
          rw [ht] at hown hext
          have HOW : Hid (Own wr vr (dl ++ (ehead 5 i ++ (flat (qs.map plain)).flatten))) := hown
          have HEX : Hid (Ext w v dl.length wr vr (dl ++ (ehead 5 i ++ (flat (qs.map plain)).flatten)).length) := Ext.after HBS.out hext
          have HBY2 : Hid (BytesAt wr (some ⟨b, off', none⟩) (n - c') (l.drop c')) := hext.bytes HBY.out fun a ha e => by
            obtain rfl := Option.some.inj ha
            exact HNEB.out e.symm
          clear ht hown hext HI
          go_wp2_with fail
          go_ret2
          exact ⟨_, _, ps.map plain, qs.map plain, rfl, by rw [List.length_map, HJ.out.len], HJ.out.enc, HPERM.out.map plain, List.pairwise_map.2 HASC.out, HOW.out, HEX.out, HBY2.out⟩

end Go.Proofs.Qxb6604654a

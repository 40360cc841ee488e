/-
  zzSemEq at maps: the walk.
-/
import Derived.Test.Qxb6604654aSemMap0
import Derived.Deep.RegionHeld3
namespace Go.Proofs.Qxb6604654a
open Go.RowKit

theorem Try.info3 : (Try.prog.info? 3).map (fun i => (i.zero, i.size, i.bytes)) = some (some (.int .i64 0), 1, 8) := by kernel_rfl
theorem Try.info4 : (Try.prog.info? 4).map (fun i => (i.zero, i.size, i.bytes)) = some (some (.bool false), 1, 1) := by kernel_rfl

/-- The skips' contract, in whatever world that has grown out of w. -/
def SkipC (b o n c p k : Nat) (w : World) : Prop := ∀ wx, Below w.heap.size w wx → Calls Try.prog 24 #[.slice (some ⟨b, o, none⟩) n c, .int .i64 (p : Nat)] wx fun e w' => e = .returned (.int .i64 (k : Nat)) ∧ w' = wx
theorem SkipC.mk {b o n c : Nat} {l : List UInt8} {w : World} (hb : BytesAt w (some ⟨b, o, none⟩) n l) (hn : n ≤ 1099511627776) {f p k a : Nat} (hi : itemLen f (l.drop p) = some a) (hk : k = p + a) : SkipC b o n c p k w := by
  intro wx hx
  subst hk
  exact skip_any _ n c l wx (hb.mono hx) hn f p a hi
/-- What a comparison of two keys, or two values, tells. -/
def CmpPost (R : Prop) (G : World → Prop) (e : Ending) (w' : World) : Prop := ∃ (t : Bool) (r1 r2 : Int), e = .returned (.tuple #[.bool t, .int .i64 r1, .int .i64 r2]) ∧ Hid (t = true ↔ R) ∧ Hid (G w')
def CmpC (R : Prop) (G : World → Prop) (b1 o1 n1 c1 p1 b2 o2 n2 c2 p2 : Nat) (wr : World) : Prop := ∀ w0, (∃ q, w0 = wr.drewN q) →
  Calls Try.prog 13 #[.slice (some ⟨b1, o1, none⟩) n1 c1, .int .i64 (p1 : Nat), .slice (some ⟨b2, o2, none⟩) n2 c2, .int .i64 (p2 : Nat)] w0 (CmpPost R G)
theorem CmpC.mk {rep : (α : Type) → List α → List α} {f b1 o1 n1 c1 : Nat} {l1 : List UInt8} {b2 o2 n2 c2 : Nat} {l2 : List UInt8} (IH : SemC rep f b1 o1 n1 c1 l1 b2 o2 n2 c2 l2) {w wr : World} (hb1 : BytesAt w (some ⟨b1, o1, none⟩) n1 l1) (hb2 : BytesAt w (some ⟨b2, o2, none⟩) n2 l2)
    {g1 g2 g3 g4 g5 n : Nat} {K1 K2 : List (Nat × Nat)} {u : Nat → Bool} (h : Rows5 w wr g1 g2 g3 g4 g5 n K1 K2 u) {p1 p2 : Nat} (h1 : ∃ a, itemLen f (l1.drop p1) = some a) (h2 : ∃ a, itemLen f (l2.drop p2) = some a) :
    CmpC (nf rep f (l1.drop p1) = nf rep f (l2.drop p2)) (fun w' => Rows5 w w' g1 g2 g3 g4 g5 n K1 K2 u) b1 o1 n1 c1 p1 b2 o2 n2 c2 p2 wr := by
  rintro w0 ⟨q, rfl⟩
  obtain ⟨a1, h1⟩ := h1
  obtain ⟨a2, h2⟩ := h2
  have hr := h.drewN q
  refine (IH _ p1 a1 p2 a2 (hb1.mono hr.rows.below) (hb2.mono hr.rows.below) h1 h2).mono ?_
  rintro e w' ⟨t, r1, r2, rfl, k1, _, k3⟩
  exact ⟨t, r1, r2, rfl, k1, hr.after k3⟩

set_option maxHeartbeats 4000000 in
set_option maxRecDepth 100000 in
theorem sem_5 (rep : (α : Type) → List α → List α) (f : Nat) (R : Prop) (b1 o1 n1 c1 b2 o2 n2 c2 : Nat) (w : World) (p1 k1 i1 p2 k2 i2 x : Nat) (l1 l2 : List UInt8) (IH : Hid (SemC rep f b1 o1 n1 c1 l1 b2 o2 n2 c2 l2)) (HB1 : Hid (BytesAt w (some ⟨b1, o1, none⟩) n1 l1)) (HB2 : Hid (BytesAt w (some ⟨b2, o2, none⟩) n2 l2)) (C1 C2 : Nat)
    (hn1 : n1 ≤ 1099511627776) (hn2 : n2 ≤ 1099511627776) (hp1 : k1 + C1 ≤ n1) (hp2 : k2 + C2 ≤ n2)
    (HR1 : Hid (ReadC b1 o1 n1 c1 p1 k1 5 i1 x w)) (HR2 : Hid (ReadC b2 o2 n2 c2 p2 k2 5 i2 x w)) (HC1 : Hid (seqLen (itemLen f) (2 * x) (l1.drop k1) = some C1)) (HC2 : Hid (seqLen (itemLen f) (2 * x) (l2.drop k2) = some C2))
    (HIFF : Hid (R ↔ (allPairs rep f l1 k1 x).Perm (allPairs rep f l2 k2 x))) :
    Calls Try.prog 13 #[.slice (some ⟨b1, o1, none⟩) n1 c1, .int .i64 (p1 : Nat), .slice (some ⟨b2, o2, none⟩) n2 c2, .int .i64 (p2 : Nat)] w (SemRes R (k1 + C1) (k2 + C2) w) := by
  have hx1 : 2 * x ≤ C1 := (seqLen_le (itemLen_le f) _ _ _ HC1.out).1
  have hx2 : 2 * x ≤ C2 := (seqLen_le (itemLen_le f) _ _ _ HC2.out).1
  have i1' : decide ((n1 : Int) < (x : Int)) = false := by simp; omega
  have i2' : decide ((n2 : Int) < (x : Int)) = false := by simp; omega
  have i3' : ¬ n1 < x := by omega
  have i4' : ¬ n2 < x := by omega
  have hmk := run_make_row' (P := Try.prog) 45 3 (.int .i64 0) 8 Try.underlying45 Try.info3 rfl .i64 .i64 x (by omega) (by omega)
  go_enter Try.func13, Try.ntmps13
  go_wp2_with fail
  refine Calls.mono HR1.out ?_
  clear HR1
  rintro e w' ⟨rfl, hw'⟩
  obtain rfl : w = w' := hw'.symm
  clear hw'
  go_wp2_with fail
  refine Calls.mono HR2.out ?_
  clear HR2
  rintro e w' ⟨rfl, hw'⟩
  obtain rfl : w = w' := hw'.symm
  clear hw'
  go_wp2_with fail
  generalize hw4 : (((w.alloc (.cells (madeCells #[.int .i64 0] x) 3)).alloc (.cells (madeCells #[.int .i64 0] x) 3)).alloc (.cells (madeCells #[.int .i64 0] x) 3)).alloc (.cells (madeCells #[.int .i64 0] x) 3) = w4
  have hrow := Rows4.start w x hw4.symm
  clear hw4 hmk i1' i2' i3' i4'
  generalize w.heap.size + 1 + 1 + 1 = g4 at hrow ⊢
  generalize w.heap.size + 1 + 1 = g3 at hrow ⊢
  generalize w.heap.size + 1 = g2 at hrow ⊢
  generalize w.heap.size = g1 at hrow ⊢
  have HROW0 : Hid (Rows4 w w4 g1 g2 g3 g4 x [] []) := hrow
  have HK10 : Hid (Ks rep f l1 k1 x 0 0 C1 []) := Ks.start HC1.out
  have HK20 : Hid (Ks rep f l2 k2 x 0 0 C2 []) := Ks.start HC2.out
  clear hrow HC1 HC2
  go_loopw [14, 18, 28] (fun pv cv kv wr => ∃ (j s1 d1 s2 d2 q1 q2 : Nat) (K1 K2 : List (Nat × Nat)), Hid (q1 = k1 + s1) ∧ Hid (q2 = k2 + s2) ∧ j ≤ x ∧ kv = .int .i64 (j : Nat) ∧ pv = .int .i64 (q1 : Nat) ∧ cv = .int .i64 (q2 : Nat) ∧ Hid (s1 + d1 = C1) ∧ Hid (s2 + d2 = C2) ∧
    Hid (Rows4 w wr g1 g2 g3 g4 x K1 K2) ∧ Hid (Ks rep f l1 k1 x j s1 d1 K1) ∧ Hid (Ks rep f l2 k2 x j s2 d2 K2)) (fun _ _ kv _ => x - (intOf kv).toNat)
  case atStart => exact ⟨0, 0, C1, 0, C2, k1, k2, [], [], rfl, rfl, by omega, rfl, rfl, rfl, by show 0 + C1 = C1; omega, by show 0 + C2 = C2; omega, HROW0, HK10, HK20⟩
  case round =>
    obtain ⟨j, s1, d1, s2, d2, q1, q2, K1, K2, HQ1, HQ2, hj, rfl, rfl, rfl, HD1, HD2, HROW, HK1, HK2⟩ := hrel
    clear HROW0 HK10 HK20
    by_cases hlt : j < x
    · obtain ⟨a1, y1, z1, ha1, hy1, hd1, hK1⟩ := HK1.out.next hlt
      obtain ⟨a2, y2, z2, ha2, hy2, hd2, hK2⟩ := HK2.out.next hlt
      have hq1 : q1 = k1 + s1 := HQ1.out
      have hq2 : q2 = k2 + s2 := HQ2.out
      obtain ⟨v1, hv1⟩ : ∃ v1, v1 = q1 + a1 := ⟨_, rfl⟩
      obtain ⟨v2, hv2⟩ : ∃ v2, v2 = q2 + a2 := ⟨_, rfl⟩
      obtain ⟨e1, he1⟩ : ∃ e1, e1 = v1 + y1 := ⟨_, rfl⟩
      obtain ⟨e2, he2⟩ : ∃ e2, e2 = v2 + y2 := ⟨_, rfl⟩
      rw [← hq1] at ha1 hy1 hK1
      rw [← hq2] at ha2 hy2 hK2
      rw [← hv1] at hy1 hK1
      rw [← hv2] at hy2 hK2
      have HS1 : Hid (SkipC b1 o1 n1 c1 q1 v1 w) := SkipC.mk HB1.out hn1 ha1 hv1
      have HS2 : Hid (SkipC b1 o1 n1 c1 v1 e1 w) := SkipC.mk HB1.out hn1 hy1 he1
      have HS3 : Hid (SkipC b2 o2 n2 c2 q2 v2 w) := SkipC.mk HB2.out hn2 ha2 hv2
      have HS4 : Hid (SkipC b2 o2 n2 c2 v2 e2 w) := SkipC.mk HB2.out hn2 hy2 he2
      have HE1 : Hid (e1 = k1 + (s1 + a1 + y1)) := by show _ = _; omega
      have HE2 : Hid (e2 = k2 + (s2 + a2 + y2)) := by show _ = _; omega
      have HD1' : Hid (s1 + a1 + y1 + z1 = C1) := by have := HD1.out; show _ = _; omega
      have HD2' : Hid (s2 + a2 + y2 + z2 = C2) := by have := HD2.out; show _ = _; omega
      have HK1' : Hid (Ks rep f l1 k1 x (j + 1) (s1 + a1 + y1) z1 (K1 ++ [(q1, v1)])) := hK1
      have HK2' : Hid (Ks rep f l2 k2 x (j + 1) (s2 + a2 + y2) z2 (K2 ++ [(q2, v2)])) := hK2
      have HROW' : Hid (Rows4 w ((((wr.setCell ⟨g1, j, none⟩ (.int .i64 (q1 : Nat))).setCell ⟨g2, j, none⟩ (.int .i64 (v1 : Nat))).setCell ⟨g3, j, none⟩ (.int .i64 (q2 : Nat))).setCell ⟨g4, j, none⟩ (.int .i64 (v2 : Nat))) g1 g2 g3 g4 x (K1 ++ [(q1, v1)]) (K2 ++ [(q2, v2)])) := HROW.out.step HK1.out.len HK2.out.len q1 v1 q2 v2
      have HBL : Hid (Below w.heap.size w wr) := HROW.out.below
      have HG1 : Hid (w.heap.size ≤ g1) := HROW.out.b1
      have HG2 : Hid (w.heap.size ≤ g2) := by have t1 := HROW.out.b1; have t2 := HROW.out.b12; show _ ≤ _; omega
      have HG3 : Hid (w.heap.size ≤ g3) := by have t1 := HG2.out; have t2 := HROW.out.b23; show _ ≤ _; omega
      have t12 := HROW.out.b12
      have t23 := HROW.out.b23
      have t34 := HROW.out.b34
      have r1 := HROW.out.r1
      have r2 : ∀ v, (wr.setCell ⟨g1, j, none⟩ v).rowIs g2 3 x (row2 K1) := fun v => HROW.out.r2.setOther (a := ⟨g1, j, none⟩) (by show g2 ≠ g1; omega) v
      have r3 : ∀ v v', ((wr.setCell ⟨g1, j, none⟩ v).setCell ⟨g2, j, none⟩ v').rowIs g3 3 x (row1 K2) := fun v v' => (HROW.out.r3.setOther (a := ⟨g1, j, none⟩) (by show g3 ≠ g1; omega) v).setOther (a := ⟨g2, j, none⟩) (by show g3 ≠ g2; omega) v'
      have r4 : ∀ v v' v'', (((wr.setCell ⟨g1, j, none⟩ v).setCell ⟨g2, j, none⟩ v').setCell ⟨g3, j, none⟩ v'').rowIs g4 3 x (row2 K2) := fun v v' v'' => ((HROW.out.r4.setOther (a := ⟨g1, j, none⟩) (by show g4 ≠ g1; omega) v).setOther (a := ⟨g2, j, none⟩) (by show g4 ≠ g2; omega) v').setOther (a := ⟨g3, j, none⟩) (by show g4 ≠ g3; omega) v''
      have c1' := r1.cell hlt
      have f1' := r1.frozen j
      have c2' := fun v => (r2 v).cell hlt
      have f2' := fun v => (r2 v).frozen j
      have c2'' : ∀ v v', ((wr.setCell ⟨g1, j, none⟩ v).setCell ⟨g2, j, none⟩ v').cell? ⟨g2, j, none⟩ = some v' := fun v v' => by
        have := ((r2 v).set j v').cell hlt
        simpa using this
      have c3' := fun v v' => (r3 v v').cell hlt
      have f3' := fun v v' => (r3 v v').frozen j
      have c4' := fun v v' v'' => (r4 v v' v'').cell hlt
      have f4' := fun v v' v'' => (r4 v v' v'').frozen j
      have c4'' : ∀ v v' v'' u, ((((wr.setCell ⟨g1, j, none⟩ v).setCell ⟨g2, j, none⟩ v').setCell ⟨g3, j, none⟩ v'').setCell ⟨g4, j, none⟩ u).cell? ⟨g4, j, none⟩ = some u := fun v v' v'' u => by
        have := ((r4 v v' v'').set j u).cell hlt
        simpa using this
      clear HK1 HK2 hK1 hK2 ha1 hy1 ha2 hy2 hd1 hd2 hq1 hq2 hv1 hv2 he1 he2 HQ1 HQ2 HD1 HD2 HROW r1 r2 r3 r4 t12 t23 t34
      go_wp2_with fail
      refine Calls.mono (HS1.out _ ?_) ?_
      · exact HBL.out.setCell HG1.out _
      rintro e w' ⟨rfl, hw'⟩
      subst hw'
      go_wp2_with fail
      refine Calls.mono (HS2.out _ ?_) ?_
      · exact (HBL.out.setCell HG1.out _).setCell HG2.out _
      rintro e w' ⟨rfl, hw'⟩
      subst hw'
      go_wp2_with fail
      refine Calls.mono (HS3.out _ ?_) ?_
      · exact ((HBL.out.setCell HG1.out _).setCell HG2.out _).setCell HG3.out _
      rintro e w' ⟨rfl, hw'⟩
      subst hw'
      go_wp2_with fail
      refine Calls.mono (HS4.out _ ?_) ?_
      · exact HROW'.out.below
      rintro e w' ⟨rfl, hw'⟩
      subst hw'
      clear c1' f1' c2' f2' c2'' c3' f3' c4' f4' c4'' HS1 HS2 HS3 HS4 HBL
      go_wp2_with fail
      go_roundw
      case rel => exact ⟨j + 1, s1 + a1 + y1, z1, s2 + a2 + y2, z2, e1, e2, _, _, HE1, HE2, by omega, by go_num, rfl, rfl, HD1', HD2', HROW', HK1', HK2'⟩
      case measure => simp [intOf]; omega
    · obtain rfl : j = x := by omega
      clear hlt hj
      have hmk := run_make_row' (P := Try.prog) 47 4 (.bool false) 1 Try.underlying47 Try.info4 rfl .i64 .i64 j (by omega) (by omega)
      obtain ⟨hz1, hP⟩ := HK1.out.done
      obtain ⟨hz2, hQ⟩ := HK2.out.done
      have HIF : Hid (R ↔ (K1.map (denote rep f l1)).Perm (K2.map (denote rep f l2))) := by
        have := HIFF.out
        rw [hP, hQ] at this
        exact this
      have HE1 : Hid (q1 = k1 + C1) := by have := HQ1.out; have := HD1.out; show _ = _; omega
      have HE2 : Hid (q2 = k2 + C2) := by have := HQ2.out; have := HD2.out; show _ = _; omega
      clear hz1 hz2 hP hQ HIFF HQ1 HQ2 HD1 HD2
      go_wp2_with fail
      have hrow5 := Rows5.start HROW.out
      generalize wr.alloc (.cells (madeCells #[.bool false] j) 4) = w5 at hrow5 ⊢
      generalize wr.heap.size = g5 at hrow5 ⊢
      have HR50 : Hid (Rows5 w w5 g1 g2 g3 g4 g5 j K1 K2 (fun _ => false)) := hrow5
      have HM0 : Hid (Met (K1.map (denote rep f l1)) (K2.map (denote rep f l2)) 0 (fun _ => false)) := Met.start fun _ _ => rfl
      clear hrow5 HROW hmk
      go_loopw [30] (fun iv wr => ∃ (i : Nat) (u : Nat → Bool), i ≤ j ∧ iv = .int .i64 (i : Nat) ∧ Hid (Rows5 w wr g1 g2 g3 g4 g5 j K1 K2 u) ∧ Hid (Met (K1.map (denote rep f l1)) (K2.map (denote rep f l2)) i u)) (fun iv _ => j - (intOf iv).toNat)
      case atStart => exact ⟨0, _, by omega, rfl, HR50, HM0⟩
      case round =>
        obtain ⟨i, u0, hi, rfl, HR, HM⟩ := hrel
        clear HR50 HM0
        by_cases hlt : i < j
        · go_wp2_with fail
          have HI0 : Hid (Inner (K1.map (denote rep f l1)) (K2.map (denote rep f l2)) i 0 false u0) := Inner.start HM.out
          clear HM
          go_loopw [31, 32] (fun fv jv wr => ∃ (m : Nat) (t : Bool) (u : Nat → Bool), m ≤ j ∧ jv = .int .i64 (m : Nat) ∧ fv = .bool t ∧ Hid (Rows5 w wr g1 g2 g3 g4 g5 j K1 K2 u) ∧ Hid (Inner (K1.map (denote rep f l1)) (K2.map (denote rep f l2)) i m t u)) (fun _ jv _ => j - (intOf jv).toNat)
          case atStart => exact ⟨0, false, u0, by omega, rfl, rfl, HR, HI0⟩
          case round =>
            obtain ⟨m, t, u, hm, rfl, rfl, HR, HI⟩ := hrel
            clear HI0
            cases t with
            | false =>
              by_cases hlt2 : m < j
              · cases hu : u m with
                | true =>
                  have c5 := HR.out.r5.cell hlt2
                  rw [hu] at c5
                  have HI' : Hid (Inner (K1.map (denote rep f l1)) (K2.map (denote rep f l2)) i (m + 1) false u) := HI.out.pass (.inl hu)
                  clear HI hu
                  go_wp2_with fail
                  go_roundw
                  case rel => exact ⟨m + 1, false, u, by omega, by go_num, rfl, HR, HI'⟩
                  case measure => simp [intOf]; omega
                | false =>
                  have c5 := HR.out.r5.cell hlt2
                  rw [hu] at c5
                  obtain ⟨⟨A1, V1⟩, hAV1⟩ : ∃ p, p = K1.getD i (0, 0) := ⟨_, rfl⟩
                  obtain ⟨⟨A2, V2⟩, hAV2⟩ : ∃ p, p = K2.getD m (0, 0) := ⟨_, rfl⟩
                  have hk1 := HK1.out.at hlt
                  have hk2 := HK2.out.at hlt2
                  rw [← hAV1] at hk1
                  rw [← hAV2] at hk2
                  have HP1 : Hid ((K1.map (denote rep f l1))[i]? = some (nf rep f (l1.drop A1), nf rep f (l1.drop V1))) := by
                    show _ = _
                    rw [map_at _ (by rw [HK1.out.len]; exact hlt), ← hAV1]
                    rfl
                  have HP2 : Hid ((K2.map (denote rep f l2))[m]? = some (nf rep f (l2.drop A2), nf rep f (l2.drop V2))) := by
                    show _ = _
                    rw [map_at _ (by rw [HK2.out.len]; exact hlt2), ← hAV2]
                    rfl
                  have HCELLS : Hid (∀ (w' : World), Rows5 w w' g1 g2 g3 g4 g5 j K1 K2 u → w'.cell? ⟨g1, i, none⟩ = some (.int .i64 (A1 : Nat)) ∧ w'.cell? ⟨g2, i, none⟩ = some (.int .i64 (V1 : Nat)) ∧ w'.cell? ⟨g3, m, none⟩ = some (.int .i64 (A2 : Nat)) ∧ w'.cell? ⟨g4, m, none⟩ = some (.int .i64 (V2 : Nat))) := by
                    intro w' h
                    have t1 := h.rows.r1.cell hlt
                    have t2 := h.rows.r2.cell hlt
                    have t3 := h.rows.r3.cell hlt2
                    have t4 := h.rows.r4.cell hlt2
                    unfold row1 at t1 t3
                    unfold row2 at t2 t4
                    rw [← hAV1] at t1 t2
                    rw [← hAV2] at t3 t4
                    exact ⟨t1, t2, t3, t4⟩
                  have HCK : Hid (CmpC (nf rep f (l1.drop A1) = nf rep f (l2.drop A2)) (fun w' => Rows5 w w' g1 g2 g3 g4 g5 j K1 K2 u) b1 o1 n1 c1 A1 b2 o2 n2 c2 A2 wr) := CmpC.mk IH.out HB1.out HB2.out HR.out hk1.1 hk2.1
                  have HCV : Hid (∀ w', Rows5 w w' g1 g2 g3 g4 g5 j K1 K2 u → CmpC (nf rep f (l1.drop V1) = nf rep f (l2.drop V2)) (fun w' => Rows5 w w' g1 g2 g3 g4 g5 j K1 K2 u) b1 o1 n1 c1 V1 b2 o2 n2 c2 V2 w') := fun w' h => CmpC.mk IH.out HB1.out HB2.out h hk1.2 hk2.2
                  have HU : Hid (u m = false) := hu
                  obtain ⟨cA1, _, cA2, _⟩ := HCELLS.out _ HR.out
                  clear hk1 hk2 hu hAV1 hAV2
                  go_wp2_with fail
                  go_region_held3 (fun w' => w'.cell? ⟨g1, i, none⟩ = some (.int .i64 (A1 : Nat)) ∧ w'.cell? ⟨g3, m, none⟩ = some (.int .i64 (A2 : Nat))) (first | exact ⟨cA1, cA2⟩ | exact ⟨(HCELLS.out _ HG.out).1, (HCELLS.out _ HG.out).2.2.1⟩) (first | (go_at_call 13; refine (HCK.out _ ⟨_, rfl⟩).mono ?_; rintro e w' ⟨t, r1, r2, rfl, HT, HG⟩))
                  clear HCK cA1 cA2 c5 HR
                  cases t with
                  | false =>
                    have HI' : Hid (Inner (K1.map (denote rep f l1)) (K2.map (denote rep f l2)) i (m + 1) false u) := HI.out.pass (.inr fun e => by
                      rw [HP1.out, HP2.out] at e
                      have e := congrArg Prod.fst (Option.some.inj e)
                      have := HT.out.2 e.symm
                      simp at this)
                    clear HI HT HCV
                    go_wp2_with fail
                    go_roundw
                    case rel => exact ⟨m + 1, false, u, by omega, by go_num, rfl, HG, HI'⟩
                    case measure => simp [intOf]; omega
                  | true =>
                    have HKE : Hid (nf rep f (l1.drop A1) = nf rep f (l2.drop A2)) := HT.out.1 rfl
                    clear HT
                    have HCW : Hid (CmpC (nf rep f (l1.drop V1) = nf rep f (l2.drop V2)) (fun w' => Rows5 w w' g1 g2 g3 g4 g5 j K1 K2 u) b1 o1 n1 c1 V1 b2 o2 n2 c2 V2 w') := HCV.out _ HG.out
                    obtain ⟨_, cV1, _, cV2⟩ := HCELLS.out _ HG.out
                    clear HCV
                    go_wp2_with fail
                    go_region_held3 (fun w' => w'.cell? ⟨g2, i, none⟩ = some (.int .i64 (V1 : Nat)) ∧ w'.cell? ⟨g4, m, none⟩ = some (.int .i64 (V2 : Nat))) (first | exact ⟨cV1, cV2⟩ | exact ⟨(HCELLS.out _ HG2.out).2.1, (HCELLS.out _ HG2.out).2.2.2⟩) (first | (go_at_call 13; refine (HCW.out _ ⟨_, rfl⟩).mono ?_; rintro e w' ⟨t, r1, r2, rfl, HT2, HG2⟩))
                    clear HCW cV1 cV2 HG HCELLS
                    cases t with
                    | false =>
                      have HI' : Hid (Inner (K1.map (denote rep f l1)) (K2.map (denote rep f l2)) i (m + 1) false u) := HI.out.pass (.inr fun e => by
                        rw [HP1.out, HP2.out] at e
                        have e := congrArg Prod.snd (Option.some.inj e)
                        have := HT2.out.2 e.symm
                        simp at this)
                      clear HI HKE HT2
                      go_wp2_with fail
                      go_roundw
                      case rel => exact ⟨m + 1, false, u, by omega, by go_num, rfl, HG2, HI'⟩
                      case measure => simp [intOf]; omega
                    | true =>
                      have HI' : Hid (Inner (K1.map (denote rep f l1)) (K2.map (denote rep f l2)) i (m + 1) true (use u m)) := HI.out.found HU.out HP1.out (by rw [HP2.out, HKE.out, HT2.out.1 rfl])
                      have c5 := HG2.out.r5.cell hlt2
                      have f5 := HG2.out.r5.frozen m
                      have HG3 : Hid (Rows5 w (w'.setCell ⟨g5, m, none⟩ (.bool true)) g1 g2 g3 g4 g5 j K1 K2 (use u m)) := HG2.out.mark m
                      clear HI HKE HT2 HG2 HP1 HP2
                      go_wp2_with fail
                      go_roundw
                      case rel => exact ⟨m + 1, true, use u m, by omega, by go_num, rfl, HG3, HI'⟩
                      case measure => simp [intOf]; omega
              · obtain rfl : m = j := by omega
                have HN : Hid (¬ R) := fun h => HI.out.fail (by rw [List.length_map, HK2.out.len]; exact Nat.le_refl _) (by rw [List.length_map, HK1.out.len]; exact hlt) (HIF.out.1 h)
                have HBE : Hid (Below w.heap.size w wr) := HR.out.rows.below
                clear HI HR
                go_wp2_with fail
                go_ret3
                exact SemRes.no HN.out HBE.out
            | true =>
              have HM' : Hid (Met (K1.map (denote rep f l1)) (K2.map (denote rep f l2)) (i + 1) u) := HI.out.met
              clear HI
              by_cases hlt2 : m < j
              · go_wp2_with fail
                go_roundw
                case rel => exact ⟨i + 1, u, by omega, by go_num, HR, HM'⟩
                case measure => simp [intOf]; omega
              · go_wp2_with fail
                go_roundw
                case rel => exact ⟨i + 1, u, by omega, by go_num, HR, HM'⟩
                case measure => simp [intOf]; omega
        · obtain rfl : i = j := by omega
          have HY : Hid R := HIF.out.2 (HM.out.done (by rw [List.length_map, HK1.out.len]; exact Nat.le_refl _) (by rw [List.length_map, List.length_map, HK1.out.len, HK2.out.len]))
          have HBE : Hid (Below w.heap.size w wr) := HR.out.rows.below
          clear HM HR
          go_wp2_with fail
          go_ret3
          exact SemRes.yes HY.out HBE.out (by have := HE1.out; omega) (by have := HE2.out; omega)

end Go.Proofs.Qxb6604654a

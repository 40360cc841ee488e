/-
  appendCanonicalMap's two loops: what holds at each round (no walk here).
-/
import Derived.Test.Qxb6604654aSortPairs
import Derived.Test.Qxb6604654aEnc
import Derived.Test.Qxb6604654aSkip
namespace Go.Proofs.Qxb6604654a
open Go.RowKit Go.Sort

/-- What a call of appendCanonical leaves. -/
def CanonPost (f : Nat) (w : World) (v : Value) (dl : List UInt8) (b n cap : Nat) (l : List UInt8) (a : Nat) (e : Ending) (w' : World) : Prop :=
  ∃ v' off' o, e = .returned (.tuple #[v', .slice (some ⟨b, off', none⟩) (n - a) (cap - a)]) ∧ Enc f l o ∧ Own w' v' (dl ++ o) ∧ Ext w v dl.length w' v' (dl ++ o).length ∧ BytesAt w' (some ⟨b, off', none⟩) (n - a) (l.drop a)
def CanonC (f : Nat) : Prop := ∀ (w : World) (v : Value) (dl : List UInt8) (b off n cap : Nat) (l : List UInt8) (a : Nat), Own w v dl → BytesAt w (some ⟨b, off, none⟩) n l → v.ownBlock ≠ some b → n ≤ cap → cap ≤ 9223372036854775807 → dl.length + n ≤ 1099511627776 → itemLen f l = some a →
  Calls Try.prog 21 #[v, .slice (some ⟨b, off, none⟩) n cap] w (CanonPost f w v dl b n cap l a)

/-- The bytes of a pair. -/
def plain (p : KV) : List UInt8 × List UInt8 := (p.1.2, p.2.2)
/-- A pair's rows are the call's own, and new. -/
def NewKV (w : World) (B : Nat) (p : KV) : Prop := OwnKV w p ∧ (∀ g, p.1.1.ownBlock = some g → B ≤ g) ∧ ∀ g, p.2.1.ownBlock = some g → B ≤ g

structure M1 (f : Nat) (w : World) (b n : Nat) (l : List UInt8) (x j c d off : Nat) (ps : List KV) (pv : Value) (wr : World) : Prop where
  mid : Mid f l (2 * j) (2 * x - 2 * j) c d
  enc : SeqEnc (Enc f) (itemLen f) (2 * j) l (flat (ps.map plain))
  len : ps.length = j
  row : wr.ownsRow w.heap.size 64 2 pv ps.length (cellsKV ps)
  new : ∀ p ∈ ps, NewKV wr w.heap.size p
  bytes : BytesAt wr (some ⟨b, off, none⟩) (n - c) (l.drop c)
  below : Below w.heap.size w wr

theorem M1.start {f : Nat} {w : World} {b n : Nat} {l : List UInt8} {x c off : Nat} (h : seqLen (itemLen f) (2 * x) l = some c) (hb : BytesAt w (some ⟨b, off, none⟩) n l) : M1 f w b n l x 0 0 c off [] (.slice none 0 0) w :=
  ⟨Mid.start h, rfl, rfl, World.ownsRow_nil w _ 64 2, fun p hp => by simp at hp, by simpa using hb, Below.refl _ _⟩

theorem Ext.nilBelow2 {w w' : World} {v' : Value} {n n' : Nat} (h : Ext w (.slice none 0 0) n w' v' n') : Below w.heap.size w w' := h.below (Below.refl _ _) (Nat.le_refl _) (fun g hg => by simp [Value.ownBlock] at hg)
theorem Ext.nilAbove {w w' : World} {v' : Value} {n n' : Nat} (h : Ext w (.slice none 0 0) n w' v' n') : ∀ g, v'.ownBlock = some g → w.heap.size ≤ g := h.above (Nat.le_refl _) (fun g hg => by simp [Value.ownBlock] at hg)
theorem row_below {w w' : World} {B : Nat} {pv : Value} {n : Nat} {xs : List Value} (h : w.ownsRow B 64 2 pv n xs) (hb : Below w.heap.size w w') : w'.ownsRow B 64 2 pv n xs := by
  refine ⟨h.1, ?_⟩
  rcases h.2 with h0 | ⟨g, cap, cur, e, r1, r2, r3⟩
  · exact .inl h0
  · exact .inr ⟨g, cap, cur, e, r1, (hb.block g (Array.getElem?_eq_some_iff.1 r2).1).trans r2, r3⟩
theorem OwnKV.below {w w' : World} {p : KV} (h : OwnKV w p) (hb : Below w.heap.size w w') : OwnKV w' p := ⟨h.1.below hb, h.2.below hb⟩

/-- One round more. -/
theorem M1.next {f : Nat} {w : World} {b n : Nat} {l : List UInt8} {x j c d off : Nat} {ps : List KV} {pv : Value} {wr : World} (h : M1 f w b n l x j c d off ps pv wr) (hj : j < x)
    {a1 : Nat} (ha1 : itemLen f (l.drop c) = some a1) {v1 : Value} {o1 : List UInt8} {w1 : World} (e1 : Enc f (l.drop c) o1) (ow1 : Own w1 v1 o1) (x1 : Ext wr (.slice none 0 0) 0 w1 v1 o1.length)
    {a2 : Nat} (ha2 : itemLen f (l.drop (c + a1)) = some a2) {v2 : Value} {o2 : List UInt8} {w2 : World} (e2 : Enc f (l.drop (c + a1)) o2) (ow2 : Own w2 v2 o2) (x2 : Ext w1 (.slice none 0 0) 0 w2 v2 o2.length)
    {off2 : Nat} (hb2 : BytesAt w2 (some ⟨b, off2, none⟩) (n - (c + a1 + a2)) (l.drop (c + a1 + a2)))
    {w3 w4 : World} (hb3 : Below w2.heap.size w2 w3) {pv' : Value} (hrow : w4.ownsRow w.heap.size 64 2 pv' (ps.length + 1) (cellsKV ps ++ [v1, v2])) (hgr : w3.grownBy w4 pv.ownBlock) (hbw : b < w.heap.size) :
    ∃ d', M1 f w b n l x (j + 1) (c + a1 + a2) d' off2 (ps ++ [((v1, o1), (v2, o2))]) pv' w4 := by
  obtain ⟨hm, he, hl, hr, hn, hb, hbl⟩ := h
  rw [show 2 * x - 2 * j = (2 * x - 2 * j - 1) + 1 from by omega] at hm
  obtain ⟨a1', d1, q1, rfl, hm1⟩ := hm.next
  rw [ha1] at q1
  obtain rfl := Option.some.inj q1
  rw [show 2 * x - 2 * j - 1 = (2 * x - 2 * (j + 1)) + 1 from by omega] at hm1
  obtain ⟨a2', d2, q2, rfl, hm2⟩ := hm1.next
  rw [ha2] at q2
  obtain rfl := Option.some.inj q2
  have bl1 : Below wr.heap.size wr w1 := x1.nilBelow2
  have bl2 : Below w1.heap.size w1 w2 := x2.nilBelow2
  have row3 : w3.ownsRow w.heap.size 64 2 pv ps.length (cellsKV ps) := row_below (row_below (row_below hr bl1) bl2) hb3
  refine ⟨d2, hm2, ?_, by rw [List.length_append, hl]; rfl, ?_, ?_, ?_, ?_⟩
  · rw [List.map_append, flat_append]
    have s1 := SeqEnc.snoc (2 * j) l _ c he hm.1 ha1 e1
    have s2 := SeqEnc.snoc (2 * j + 1) l _ (c + a1) s1 hm1.1 ha2 e2
    rw [List.append_assoc] at s2
    exact s2
  · rw [List.length_append, cellsKV_append]
    exact hrow
  · intro p hp
    rw [List.mem_append] at hp
    rcases hp with hp | hp
    · obtain ⟨o, g1, g2⟩ := hn p hp
      exact ⟨(((o.below bl1).below bl2).below hb3).grownBy row3 hgr, g1, g2⟩
    · rw [List.mem_singleton] at hp
      subst hp
      have t1 : Own w3 v1 o1 := (ow1.below bl2).below hb3
      have t2 : Own w3 v2 o2 := ow2.below hb3
      exact ⟨⟨t1.grownBy row3 hgr, t2.grownBy row3 hgr⟩, fun g hg => Nat.le_trans hbl.size (x1.nilAbove g hg), fun g hg => Nat.le_trans hbl.size (Nat.le_trans bl1.size (x2.nilAbove g hg))⟩
  · have t := hb2.mono hb3
    refine ⟨t.len, fun h0 => ?_⟩
    obtain ⟨b', off', e, hc⟩ := t.cells h0
    refine ⟨b', off', e, fun k hk => hgr.cell (hc k hk) ?_⟩
    simp only [Option.some.injEq, Addr.mk.injEq, and_true] at e
    obtain ⟨rfl, rfl⟩ := e
    intro h
    have := (row3.lt b h.symm).1
    omega
  · have t : Below w.heap.size w w3 := ((hbl.trans (bl1.mono hbl.size)).trans (bl2.mono (Nat.le_trans hbl.size bl1.size))).trans (hb3.mono (Nat.le_trans hbl.size (Nat.le_trans bl1.size bl2.size)))
    exact t.grown hgr (Nat.le_trans hbl.size (Nat.le_trans bl1.size (Nat.le_trans bl2.size hb3.size))) (fun g hg => (row3.lt g hg).1)

/-- The second loop: j pairs have been written behind the head. -/
structure M2 (w : World) (v : Value) (dl : List UInt8) (x : Nat) (qs : List KV) (j : Nat) (vr : Value) (wr : World) : Prop where
  own : Own wr vr (dl ++ (ehead 5 x ++ (flat ((qs.take j).map plain)).flatten))
  ext : Ext w v dl.length wr vr (dl ++ (ehead 5 x ++ (flat ((qs.take j).map plain)).flatten)).length

/-- What lies there when the sort is done: v's own row is none of the pairs', and the pairs' row is another still. -/
structure Sorted (w : World) (v : Value) (dl : List UInt8) (B : Nat) (qs : List KV) (pv : Value) : Prop where
  own : Own w v dl
  low : ∀ g, v.ownBlock = some g → g < B
  row : w.ownsRow B 64 2 pv qs.length (cellsKV qs)
  new : ∀ p ∈ qs, NewKV w B p

theorem Sorted.keeps {w wr : World} {v vr : Value} {dl lr : List UInt8} {B : Nat} {qs : List KV} {pv : Value} (h : Sorted w v dl B qs pv) (he : Ext w v dl.length wr vr lr.length) :
    wr.ownsRow B 64 2 pv qs.length (cellsKV qs) ∧ ∀ p ∈ qs, OwnKV wr p := by
  refine ⟨⟨h.row.1, ?_⟩, fun p hp => ?_⟩
  · rcases h.row.2 with h0 | ⟨g, cap, cur, e, r1, r2, r3⟩
    · exact .inl h0
    · refine .inr ⟨g, cap, cur, e, r1, (he.grown.block g (Array.getElem?_eq_some_iff.1 r2).1 fun e2 => ?_).trans r2, r3⟩
      have := h.low g e2.symm
      omega
  · obtain ⟨⟨o1, o2⟩, g1, g2⟩ := h.new p hp
    refine ⟨he.keeps _ _ o1 fun e => ?_, he.keeps _ _ o2 fun e => ?_⟩
    · cases hb : p.1.1.ownBlock with
      | none => rw [o1.len0 hb]; exact Nat.zero_le _
      | some g =>
        have a := g1 g hb
        have := h.low g (by rw [← e, hb])
        omega
    · cases hb : p.2.1.ownBlock with
      | none => rw [o2.len0 hb]; exact Nat.zero_le _
      | some g =>
        have a := g2 g hb
        have := h.low g (by rw [← e, hb])
        omega

/-- The cells of pair j. -/
theorem row_pair {w : World} {B : Nat} {qs : List KV} {pv : Value} (h : w.ownsRow B 64 2 pv qs.length (cellsKV qs)) {j : Nat} (hj : j < qs.length) :
    ∃ g cap, pv = .slice (some ⟨g, 0, none⟩) qs.length cap ∧ qs.length ≤ cap ∧ cap ≤ 9223372036854775807 ∧ w.cell? ⟨g, j * 2, none⟩ = some (kvAt qs j).1.1 ∧ w.cell? ⟨g, j * 2 + 1, none⟩ = some (kvAt qs j).2.1 := by
  have hc := cellsKV_even qs j hj
  rcases h.2 with ⟨_, h0⟩ | ⟨g, cap, cur, rfl, _, _, hnc, hcm, _⟩
  · omega
  · refine ⟨g, cap, rfl, hnc, by unfold maxLen at hcm; omega, ?_, ?_⟩
    · rw [World.ownsRow.cellAt h (j * 2) (by omega), Nat.mul_comm]
      exact hc.1
    · rw [World.ownsRow.cellAt h (j * 2 + 1) (by omega), Nat.mul_comm]
      exact hc.2

theorem take_succ_plain (qs : List KV) (j : Nat) (hj : j < qs.length) : (flat ((qs.take (j + 1)).map plain)).flatten = (flat ((qs.take j).map plain)).flatten ++ ((kvAt qs j).1.2 ++ (kvAt qs j).2.2) := by
  rw [List.take_succ_eq_append_getElem hj, List.map_append, flat_append, List.flatten_append, kvAt_lt qs j hj]
  simp [flat, plain]

/-- One pair more. -/
theorem M2.next {w : World} {v : Value} {dl : List UInt8} {x : Nat} {qs : List KV} {j : Nat} {vr : Value} {wr : World} (h : M2 w v dl x qs j vr wr) (hj : j < qs.length) {wb w1 w2 : World} {v1 v2 : Value} (hb : Below wr.heap.size wr wb)
    (e1 : Ext wb vr (dl ++ (ehead 5 x ++ (flat ((qs.take j).map plain)).flatten)).length w1 v1 (dl ++ (ehead 5 x ++ (flat ((qs.take j).map plain)).flatten) ++ (kvAt qs j).1.2).length)
    (o2 : Own w2 v2 (dl ++ (ehead 5 x ++ (flat ((qs.take j).map plain)).flatten) ++ (kvAt qs j).1.2 ++ (kvAt qs j).2.2))
    (e2 : Ext w1 v1 (dl ++ (ehead 5 x ++ (flat ((qs.take j).map plain)).flatten) ++ (kvAt qs j).1.2).length w2 v2 (dl ++ (ehead 5 x ++ (flat ((qs.take j).map plain)).flatten) ++ (kvAt qs j).1.2 ++ (kvAt qs j).2.2).length) :
    M2 w v dl x qs (j + 1) v2 w2 := by
  have e : dl ++ (ehead 5 x ++ (flat ((qs.take (j + 1)).map plain)).flatten) = dl ++ (ehead 5 x ++ (flat ((qs.take j).map plain)).flatten) ++ (kvAt qs j).1.2 ++ (kvAt qs j).2.2 := by
    rw [take_succ_plain qs j hj]
    simp
  refine ⟨by rw [e]; exact o2, ?_⟩
  rw [e]
  exact (h.ext.trans (Ext.after hb e1)).trans e2

end Go.Proofs.Qxb6604654a

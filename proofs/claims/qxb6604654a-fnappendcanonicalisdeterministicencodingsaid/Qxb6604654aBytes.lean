/-
  Bytes in memory: a slice that is read (BytesAt), a slice that the call owns and appends to (Own), and what an append leaves of the rest (Ext).
-/
import Derived.Test.Qxb6604654aRows
import Derived.WalkKit
import Derived.WalkSpells
import Derived.Handy
import Derived.BigQuiet
import Derived.Deep.QuietTactic
import Derived.WalkSmall
import Derived.Laws.CopyOwn
namespace Go.Proofs.Qxb6604654a
open Go.RowKit

/-- Byte k of l, as the walk spells it; 0 past the end. -/
def byteAt (l : List UInt8) (k : Nat) : Int := ((l.getD k 0).toNat : Int)
theorem byteAt_bd (l : List UInt8) (k : Nat) : 0 ≤ byteAt l k ∧ byteAt l k < 256 := by
  unfold byteAt
  have := (l.getD k 0).toNat_lt
  omega
/-- The bytes as cells. -/
def vals (l : List UInt8) : List Value := l.map fun b => .int .u8 (b.toNat : Int)
theorem vals_length (l : List UInt8) : (vals l).length = l.length := by simp [vals]
theorem vals_get (l : List UInt8) (k : Nat) (h : k < l.length) : (vals l)[k]? = some (.int .u8 (byteAt l k)) := by
  simp [vals, byteAt, h, List.getD]
theorem vals_append (l m : List UInt8) : vals (l ++ m) = vals l ++ vals m := by simp [vals]
theorem vals_one (l : List UInt8) : ∀ u ∈ vals l, u.oneCell' = true := by
  intro u hu
  obtain ⟨_, _, rfl⟩ := List.mem_map.1 hu
  rfl

/-- A slice of n bytes at ao: the bytes l. -/
structure BytesAt (w : World) (ao : Option Addr) (n : Nat) (l : List UInt8) : Prop where
  len : l.length = n
  cells : 0 < n → ∃ b off, ao = some ⟨b, off, none⟩ ∧ ∀ k, k < n → w.cell? ⟨b, off + k, none⟩ = some (.int .u8 (byteAt l k))

theorem BytesAt.mono {w w' : World} {ao : Option Addr} {n : Nat} {l : List UInt8} (h : BytesAt w ao n l) (hb : Below w.heap.size w w') : BytesAt w' ao n l := by
  refine ⟨h.len, fun hn => ?_⟩
  obtain ⟨b, off, e, hc⟩ := h.cells hn
  refine ⟨b, off, e, fun k hk => ?_⟩
  have hlt : b < w.heap.size := World.block_lt_of_cell? w ⟨b, off + k, none⟩ (hc k hk)
  exact (hb.cell (p := ⟨b, off + k, none⟩) hlt).trans (hc k hk)

/-- The value v is a slice of the call's own (or nil), whose elements are the bytes l. -/
def Own (w : World) (v : Value) (l : List UInt8) : Prop := w.ownsRow 0 5 1 v l.length (vals l)

theorem Own.shape {w : World} {v : Value} {l : List UInt8} (h : Own w v l) : ∃ ao cap, v = .slice ao l.length cap ∧ l.length ≤ cap ∧ (ao = none → cap = 0) := by
  rcases h.2 with ⟨rfl, h0⟩ | ⟨g, cap, cur, rfl, _, _, hc, _⟩
  · exact ⟨none, 0, by rw [h0], by omega, fun _ => rfl⟩
  · exact ⟨_, cap, rfl, hc, fun h => by simp at h⟩
theorem Own.capBound {w : World} {ao : Option Addr} {n cap : Nat} {l : List UInt8} (h : Own w (.slice ao n cap) l) : cap ≤ 9223372036854775807 := by
  rcases h.2 with ⟨e, _⟩ | ⟨g, cap', cur, e, _, _, _, hm, _⟩
  · simp only [Value.slice.injEq] at e
    omega
  · simp only [Value.slice.injEq] at e
    unfold maxLen at hm
    omega
theorem Own.bytes {w : World} {ao : Option Addr} {n cap : Nat} {l : List UInt8} (h : Own w (.slice ao n cap) l) : BytesAt w ao n l := by
  rcases h.2 with ⟨e, h0⟩ | ⟨g, cap', cur, e, _, hg, hc, _, hs, ht⟩
  · simp only [Value.slice.injEq] at e
    obtain ⟨rfl, rfl, rfl⟩ := e
    exact ⟨h0, fun h => by omega⟩
  · have hh := h
    simp only [Value.slice.injEq] at e
    obtain ⟨rfl, rfl, rfl⟩ := e
    refine ⟨rfl, fun _ => ⟨g, 0, rfl, fun k hk => ?_⟩⟩
    rw [Nat.zero_add, World.ownsRow.cellAt hh k (by omega)]
    exact vals_get l k hk
theorem Own.len {w : World} {ao : Option Addr} {n cap : Nat} {l : List UInt8} (h : Own w (.slice ao n cap) l) : l.length = n := h.bytes.len
theorem Own.nil (w : World) : Own w (.slice none 0 0) [] := World.ownsRow_nil w 0 5 1
theorem Own.block {w w' : World} {v : Value} {l : List UInt8} (h : Own w v l) (hb : ∀ g, v.ownBlock = some g → w'.heap[g]? = w.heap[g]?) : Own w' v l := by
  refine ⟨h.1, ?_⟩
  rcases h.2 with h0 | ⟨g, cap, cur, rfl, r1, r2, r3⟩
  · exact .inl h0
  · exact .inr ⟨g, cap, cur, rfl, r1, (hb g rfl).trans r2, r3⟩
theorem Own.lt {w : World} {v : Value} {l : List UInt8} (h : Own w v l) {g : Nat} (hg : v.ownBlock = some g) : g < w.heap.size := (World.ownsRow.lt h g hg).2
theorem Own.below {w w' : World} {v : Value} {l : List UInt8} (h : Own w v l) (hb : Below w.heap.size w w') : Own w' v l := h.block fun g hg => hb.block g (h.lt hg)

/-- What an append to v (n bytes) that gives v' (n' bytes) leaves of the world: only v's own block may have turned, and there nothing of the first n bytes; v' lies in that block or in a new one. -/
structure Ext (w : World) (v : Value) (n : Nat) (w' : World) (v' : Value) (n' : Nat) : Prop where
  le : n ≤ n'
  grown : w.grownBy w' v.ownBlock
  place : v'.ownBlock = v.ownBlock ∨ ∀ g, v'.ownBlock = some g → w.heap.size ≤ g
  keeps : ∀ (u : Value) (lu : List UInt8), Own w u lu → (u.ownBlock = v.ownBlock → lu.length ≤ n) → Own w' u lu

theorem Own.len0 {w : World} {u : Value} {lu : List UInt8} (h : Own w u lu) (h0 : u.ownBlock = none) : lu.length = 0 := by
  rcases h.2 with ⟨_, h1⟩ | ⟨g, cap, cur, rfl, _⟩
  · exact h1
  · simp [Value.ownBlock] at h0

theorem Ext.trans {w w1 w2 : World} {v v1 v2 : Value} {n n1 n2 : Nat} (h : Ext w v n w1 v1 n1) (k : Ext w1 v1 n1 w2 v2 n2) : Ext w v n w2 v2 n2 := by
  refine ⟨Nat.le_trans h.le k.le, ⟨k.grown.os.trans h.grown.os, k.grown.tape.trans h.grown.tape, k.grown.output.trans h.grown.output, Nat.le_trans h.grown.size k.grown.size, fun i hi hne => ?_⟩, ?_, ?_⟩
  · refine (k.grown.block i (Nat.lt_of_lt_of_le hi h.grown.size) fun e => ?_).trans (h.grown.block i hi hne)
    rcases h.place with h1 | h1
    · exact hne (e.trans h1)
    · have := h1 i e.symm
      omega
  · rcases k.place with k1 | k1
    · rcases h.place with h1 | h1
      · exact .inl (k1.trans h1)
      · exact .inr fun g hg => h1 g (k1 ▸ hg)
    · exact .inr fun g hg => Nat.le_trans h.grown.size (k1 g hg)
  · intro u lu hu hc
    refine k.keeps u lu (h.keeps u lu hu hc) fun e => ?_
    rcases h.place with h1 | h1
    · exact Nat.le_trans (hc (e.trans h1)) h.le
    · cases hb : u.ownBlock with
      | none => rw [hu.len0 hb]; exact Nat.zero_le _
      | some g =>
        have a := hu.lt hb
        have b := h1 g (e ▸ hb)
        omega
/-- New blocks ahead of an append. -/
theorem Ext.after {w w1 w2 : World} {v v2 : Value} {n n2 : Nat} (hb : Below w.heap.size w w1) (k : Ext w1 v n w2 v2 n2) : Ext w v n w2 v2 n2 :=
  Ext.trans ⟨Nat.le_refl _, ⟨hb.os, hb.tape, hb.output, hb.size, fun i hi _ => hb.block i hi⟩, .inl rfl, fun _ _ hu _ => hu.below hb⟩ k
theorem Ext.ofBelow {w w1 : World} (v : Value) (n : Nat) (hb : Below w.heap.size w w1) : Ext w v n w1 v n :=
  ⟨Nat.le_refl _, ⟨hb.os, hb.tape, hb.output, hb.size, fun i hi _ => hb.block i hi⟩, .inl rfl, fun _ _ hu _ => hu.below hb⟩
theorem Own.drew {w : World} {u : Value} {lu : List UInt8} (h : Own w u lu) : Own w.drew u lu := h
theorem Own.drewN {w : World} {u : Value} {lu : List UInt8} (h : Own w u lu) (q : Nat) : Own (w.drewN q) u lu := h.below (below_drewN (Below.refl _ _) q)
theorem Ext.drew {w w1 : World} {v v1 : Value} {n n1 : Nat} (h : Ext w v n w1 v1 n1) : Ext w v n w1.drew v1 n1 := ⟨h.le, ⟨h.grown.os, h.grown.tape, h.grown.output, h.grown.size, h.grown.block⟩, h.place, h.keeps⟩
theorem Ext.drewN {w w1 : World} {v v1 : Value} {n n1 : Nat} (h : Ext w v n w1 v1 n1) (q : Nat) : Ext w v n (w1.drewN q) v1 n1 :=
  ⟨h.le, ⟨h.grown.os, h.grown.tape, h.grown.output, h.grown.size, h.grown.block⟩, h.place, fun u lu hu hc => (h.keeps u lu hu hc).drewN q⟩
/-- Bytes that do not lie in v's block read as before. -/
theorem Ext.bytes {w w' : World} {v v' : Value} {n n' : Nat} (h : Ext w v n w' v' n') {ao : Option Addr} {k : Nat} {l : List UInt8} (hb : BytesAt w ao k l) (hne : ∀ a, ao = some a → some a.block ≠ v.ownBlock) : BytesAt w' ao k l := by
  refine ⟨hb.len, fun hn => ?_⟩
  obtain ⟨b, off, e, hc⟩ := hb.cells hn
  refine ⟨b, off, e, fun k hk => ?_⟩
  exact h.grown.cell (hc k hk) (hne ⟨b, off, none⟩ e)
/-- Below a bound that lies under v's block nothing turns. -/
theorem Ext.below {B : Nat} {w0 w w' : World} {v v' : Value} {n n' : Nat} (h : Ext w v n w' v' n') (hb : Below B w0 w) (hB : B ≤ w.heap.size) (hv : ∀ g, v.ownBlock = some g → B ≤ g) : Below B w0 w' :=
  hb.grown h.grown hB hv
theorem Ext.above {B : Nat} {w w' : World} {v v' : Value} {n n' : Nat} (h : Ext w v n w' v' n') (hB : B ≤ w.heap.size) (hv : ∀ g, v.ownBlock = some g → B ≤ g) : ∀ g, v'.ownBlock = some g → B ≤ g := by
  intro g hg
  rcases h.place with h1 | h1
  · exact hv g (h1 ▸ hg)
  · exact Nat.le_trans hB (h1 g hg)

/-- A row that keeps its first n cells keeps every view of at most n of them. -/
theorem keeps_of_fits {w w' : World} {g cap : Nat} {l news : List UInt8} {m : Nat} (hm : news.length = m) (hown : Own w (.slice (some ⟨g, 0, none⟩) l.length cap) l)
    (ho : w'.ownsRow 0 5 1 (.slice (some ⟨g, 0, none⟩) (l.length + m) cap) (l.length + m) (vals l ++ vals news)) (hgr : w.grownBy w' (some g)) :
    ∀ (u : Value) (lu : List UInt8), Own w u lu → (u.ownBlock = some g → lu.length ≤ l.length) → Own w' u lu := by
  intro u lu hu hc
  rcases hu.2 with h0 | ⟨g', cap', cur', rfl, r1, r2, r3, r4, r5, r6⟩
  · exact ⟨hu.1, .inl h0⟩
  by_cases hgg : g' = g
  · subst hgg
    have hle := hc rfl
    rcases hown.2 with ⟨e, _⟩ | ⟨g1, cap1, cur1, e, _, s2, s3, s4, s5, s6⟩
    · simp at e
    simp only [Value.slice.injEq, Option.some.injEq, Addr.mk.injEq, and_true, true_and] at e
    obtain ⟨rfl, rfl⟩ := e
    rcases ho.2 with ⟨e, _⟩ | ⟨g2, cap2, cur2, e, _, t2, t3, t4, t5, t6⟩
    · simp at e
    simp only [Value.slice.injEq, Option.some.injEq, Addr.mk.injEq, and_true, true_and] at e
    obtain ⟨rfl, rfl⟩ := e
    rw [r2] at s2
    simp only [Option.some.injEq, Obj.cells.injEq, and_true] at s2
    subst s2
    refine ⟨hu.1, .inr ⟨g', cap', cur2, rfl, r1, t2, r3, r4, by omega, ?_⟩⟩
    have e1 : cur2.toList.take (lu.length * 1) = (cur2.toList.take ((l.length + m) * 1)).take (lu.length * 1) := by rw [List.take_take]; congr 1; omega
    have e2 : cur'.toList.take (lu.length * 1) = (cur'.toList.take (l.length * 1)).take (lu.length * 1) := by rw [List.take_take]; congr 1; omega
    rw [e1, t6, ← r6, e2, s6, List.take_append_of_le_length (by rw [vals_length]; omega)]
  · exact hu.block fun k hk => hgr.block k (hu.lt hk) (by
      simp only [Value.ownBlock, Option.some.injEq] at hk
      subst hk
      simpa using hgg)

theorem Try.info5 : (Try.prog.info? 5).map (fun i => (i.zero, i.size, i.bytes)) = some (some (.int .u8 0), 1, 1) := by kernel_rfl

/-- append(v, x...) where v is the call's own and x holds the bytes news. -/
theorem wpList_append_mine (w : World) {ops : Array Oper} {rest : List Oper} {o : Oper} {a : Act} {Q : Exit → Act → World → Prop}
    (hg : o.guard = none) (s x : Operand) (hop : o.op = Op.call { callee := Callee.builtin Builtin.append, args := #[s, x], argTypes := #[22, 22] })
    (v : Value) (l : List UInt8) (hs : a.eval s = v) (hown : Own w v l) (ad : Addr) (m c : Nat) (news : List UInt8) (hx : a.eval x = .slice (some ad) m c) (hm : news.length = m)
    (hc : ∀ j, j < m → w.cell? (ad.add j) = some (.int .u8 (byteAt news j))) (hlen : l.length + m ≤ 140737488355328)
    (hK : ∀ v' w', Own w' v' (l ++ news) → Ext w v l.length w' v' (l ++ news).length → wpList Try.prog ops Q rest (a.put o.dst v') w') :
    wpList Try.prog ops Q (o :: rest) a w := by
  obtain ⟨i0, hi, hz0, hz1, hz2⟩ := info_parts Try.info5
  have hcs : ∀ j u, (vals news)[j]? = some u → w.cell? (ad.add j) = some u := by
    intro j u hu
    have hj : j < news.length := by
      have := (List.getElem?_eq_some_iff.1 hu).1
      rwa [vals_length] at this
    rw [vals_get news j hj] at hu
    rw [hc j (by omega), ← hu]
  have hmx : l.length + m ≤ maxLen := by unfold maxLen; omega
  have hvl : (vals news).length = m * 1 := by rw [vals_length]; omega
  have hlast : ∀ v' w', w'.ownsRow w.heap.size 5 1 v' (l.length + m) (vals l ++ vals news) → Own w' v' (l ++ news) ∧ ∀ g, v'.ownBlock = some g → w.heap.size ≤ g := by
    intro v' w' h
    refine ⟨?_, fun g hg => (h.lt g hg).1⟩
    refine ⟨by rw [vals_length, Nat.mul_one], ?_⟩
    rw [vals_append, List.length_append, hm]
    rcases h.2 with h0 | ⟨g, cap, cur, r0, _, r2⟩
    · exact .inl h0
    · exact .inr ⟨g, cap, cur, r0, Nat.zero_le _, r2⟩
  rcases hown.2 with ⟨rfl, h0⟩ | ⟨g, cap, cur, rfl, _, hgc, hlc, hcm, hcs', htk⟩
  · have hnil : w.ownsRow w.heap.size 5 1 (.slice none 0 0) l.length (vals l) := ⟨hown.1, .inl ⟨rfl, h0⟩⟩
    refine wpList_append_own w hg s x 22 hop w.heap.size 5 i0 (.int .u8 0) 1 1 Try.underlying22 hi hz0 hz1 hz2 rfl (by decide) _ l.length (vals l) hs hnil ad m c (vals news) hx hvl hcs (vals_one _) hmx (by omega) (Nat.le_refl _) ?_
    intro v' w' ho hgr _
    obtain ⟨h1, h2⟩ := hlast v' w' ho
    exact hK v' w' h1 ⟨by simp, hgr, .inr h2, fun u lu hu hcu => hu.block fun k hk => hgr.block k (hu.lt hk) (by simp [Value.ownBlock])⟩
  · by_cases hfit : l.length + m ≤ cap
    · refine wpList_append_fits w hg s x 22 hop 0 5 i0 1 Try.underlying22 hi hz1 g l.length cap (vals l) hs hown ad m c (vals news) hx hvl hcs (vals_one _) hfit ?_
      intro w' ho hgr
      refine hK _ w' ?_ ⟨by simp, hgr, .inl rfl, keeps_of_fits hm hown ho hgr⟩
      unfold Own
      rw [vals_append, List.length_append, hm]
      exact ho
    · refine wpList_append_grows w hg s x 22 hop 5 i0 (.int .u8 0) 1 1 Try.underlying22 hi hz0 hz1 hz2 rfl (by decide) _ l.length cap (vals l) hs (fun h => by simp at h) (by rw [vals_length]; omega) ?_ ad m c (vals news) hx hvl hcs (vals_one _) (by omega) hmx (by omega) ?_
      · intro b hb j u hu
        obtain rfl := Option.some.inj hb
        have hj : j < l.length := by
          have := (List.getElem?_eq_some_iff.1 hu).1
          rwa [vals_length] at this
        rw [Addr.add_lit, Nat.zero_add, World.ownsRow.cellAt hown j (by omega)]
        exact hu
      · intro v' w' ho hgr
        obtain ⟨h1, h2⟩ := hlast v' w' ho
        exact hK v' w' h1 ⟨by simp, ⟨hgr.os, hgr.tape, hgr.output, hgr.size, fun k hk _ => hgr.block k hk (by simp)⟩, .inr h2, fun u lu hu _ => hu.block fun k hk => hgr.block k (hu.lt hk) (by simp)⟩

end Go.Proofs.Qxb6604654a

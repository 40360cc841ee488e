/-
  append onto a slice of the call's own, what is appended being any slice that reads as bytes: the run's equation and its forms for the walk.
-/
import Derived.Test.Qxb6604654aBytes
import Derived.ArgAppend
import Derived.Laws.OwnMore
import Derived.RegionTactic
namespace Go.Proofs.Qxb6604654a
open Go.RowKit

theorem BytesAt.news {w : World} {ao : Option Addr} {m : Nat} {news : List UInt8} (h : BytesAt w ao m news) (ad : Addr) (e : ao = some ad) : ∀ j u, (vals news)[j]? = some u → w.cell? (ad.add j) = some u := by
  intro j u hu
  have hj : j < news.length := by
    have := (List.getElem?_eq_some_iff.1 hu).1
    rwa [vals_length] at this
  rw [vals_get news j hj] at hu
  have hlen := h.len
  obtain ⟨b, off, e2, hc⟩ := h.cells (by omega)
  rw [e] at e2
  obtain rfl := Option.some.inj e2
  rw [Addr.add_lit, hc j (by omega), ← hu]

theorem run_append_mine (w : World) (ty : TypeId) (v : Value) (l : List UInt8) (hown : Own w v l) (ao : Option Addr) (m c : Nat) (news : List UInt8) (hb : BytesAt w ao m news) (hnone : ao = none → c = 0) (hlen : l.length + m ≤ 140737488355328) :
    ∃ v' w', (Builtin.append_ #[22, 22] ty #[v, .slice ao m c]).run Try.prog w = .ok v' w' ∧ Own w' v' (l ++ news) ∧ Ext w v l.length w' v' (l ++ news).length := by
  obtain ⟨i0, hi, hz0, hz1, hz2⟩ := info_parts Try.info5
  have hm := hb.len
  cases ao with
  | none =>
    obtain rfl := hnone rfl
    have h0 : m = 0 := by
      rcases Nat.eq_zero_or_pos m with h | h
      · exact h
      · obtain ⟨_, _, e, _⟩ := hb.cells h
        simp at e
    subst h0
    obtain rfl : news = [] := List.eq_nil_of_length_eq_zero hm
    refine ⟨v, w, run_append_owned_none (P := Try.prog) w 0 22 ty 5 i0 1 Try.underlying22 hi v l.length (vals l) hown, by rw [List.append_nil]; exact hown, ?_⟩
    rw [List.append_nil]
    exact Ext.ofBelow v l.length (Below.refl _ _)
  | some ad =>
    have hcs := hb.news ad rfl
    have hmx : l.length + m ≤ maxLen := by unfold maxLen; omega
    have hvl : (vals news).length = m * 1 := by rw [vals_length]; omega
    have hlast : ∀ v' w', w'.ownsRow w.heap.size 5 1 v' (l.length + m) (vals l ++ vals news) → Own w' v' (l ++ news) ∧ ∀ g, v'.ownBlock = some g → w.heap.size ≤ g := by
      intro v' w' h
      refine ⟨?_, fun g hg => (h.lt g hg).1⟩
      refine ⟨by rw [vals_length, Nat.mul_one], ?_⟩
      rw [vals_append, List.length_append, hm]
      rcases h.2 with h0 | ⟨g, cap, cur, r0, _, r2⟩
      · exact .inl h0
      · exact .inr ⟨g, cap, cur, r0, Nat.zero_le _, r2⟩
    rcases hown.2 with ⟨rfl, h0⟩ | ⟨g, cap, cur, rfl, _, hgc, hlc, hcm, hcs', htk⟩
    · have hnil : w.ownsRow w.heap.size 5 1 (.slice none 0 0) l.length (vals l) := ⟨hown.1, .inl ⟨rfl, h0⟩⟩
      obtain ⟨v', w', hr, ho, hgr, _⟩ := run_append_own (P := Try.prog) w w.heap.size 22 ty 5 i0 (.int .u8 0) 1 1 Try.underlying22 hi hz0 hz1 hz2 rfl (by decide) _ l.length (vals l) hnil ad m c (vals news) hvl hcs (vals_one _) hmx (by omega) (Nat.le_refl _)
      obtain ⟨h1, h2⟩ := hlast v' w' ho
      exact ⟨v', w', hr, h1, ⟨by simp, hgr, .inr h2, fun u lu hu hcu => hu.block fun k hk => hgr.block k (hu.lt hk) (by simp [Value.ownBlock])⟩⟩
    · by_cases hfit : l.length + m ≤ cap
      · obtain ⟨w', hr, ho, hgr⟩ := run_append_fits (P := Try.prog) w 0 22 ty 5 i0 1 Try.underlying22 hi hz1 g l.length cap (vals l) hown ad m c (vals news) hvl hcs (vals_one _) hfit
        refine ⟨_, w', hr, ?_, ⟨by simp, hgr, .inl rfl, keeps_of_fits hm hown ho hgr⟩⟩
        unfold Own
        rw [vals_append, List.length_append, hm]
        exact ho
      · have holds : ∀ j u, (vals l)[j]? = some u → w.cell? ((⟨g, 0, none⟩ : Addr).add j) = some u := by
          intro j u hu
          have hj : j < l.length := by
            have := (List.getElem?_eq_some_iff.1 hu).1
            rwa [vals_length] at this
          rw [Addr.add_lit, Nat.zero_add, World.ownsRow.cellAt hown j (by omega)]
          exact hu
        obtain ⟨v', w', hr, ho, hgr⟩ := run_append_arg_grows (P := Try.prog) w 22 ty 5 i0 (.int .u8 0) 1 1 Try.underlying22 hi hz0 hz1 hz2 rfl (by decide) ⟨g, 0, none⟩ l.length cap (vals l) (by rw [vals_length]; omega) holds ad m c (vals news) hvl hcs (by omega) hmx (by omega)
        obtain ⟨h1, h2⟩ := hlast v' w' ho
        exact ⟨v', w', hr, h1, ⟨by simp, ⟨hgr.os, hgr.tape, hgr.output, hgr.size, fun k hk _ => hgr.block k hk (by simp)⟩, .inr h2, fun u lu hu _ => hu.block fun k hk => hgr.block k (hu.lt hk) (by simp)⟩⟩

/-- At the operation. -/
theorem wp_append_mine {o : Oper} {a : Act} {K : Act → World → Prop} {Q : Exit → Act → World → Prop} (w : World) (s x : Operand) (ho : o.op = .call { callee := .builtin .append, args := #[s, x], argTypes := #[22, 22] })
    (v : Value) (l : List UInt8) (hs : a.eval s = v) (hown : Own w v l) (ao : Option Addr) (m c : Nat) (news : List UInt8) (hx : a.eval x = .slice ao m c) (hb : BytesAt w ao m news) (hnone : ao = none → c = 0) (hlen : l.length + m ≤ 140737488355328)
    (h : ∀ v' w', Own w' v' (l ++ news) → Ext w v l.length w' v' (l ++ news).length → K (a.put o.dst v') w') : o.wp Try.prog a w K Q := by
  obtain ⟨v', w', hr, h2, h3⟩ := run_append_mine w o.type v l hown ao m c news hb hnone hlen
  unfold Oper.wp execOp
  simp only [ho, resolve, invoke, builtin, Sem.run_bind, Sem.run_pure, Result.andThen_ok, List.map_toArray, List.map_cons, List.map_nil, hs, hx, hr]
  exact h v' w' h2 h3

/-- At the list of a plain region's operations. -/
theorem wpList_append_own2 (w : World) {ops : Array Oper} {rest : List Oper} {o : Oper} {a : Act} {Q : Exit → Act → World → Prop} (hgd : o.guard = none) (s x : Operand)
    (ho : o.op = .call { callee := .builtin .append, args := #[s, x], argTypes := #[22, 22] })
    (v : Value) (l : List UInt8) (hs : a.eval s = v) (hown : Own w v l) (ao : Option Addr) (m c : Nat) (news : List UInt8) (hx : a.eval x = .slice ao m c) (hb : BytesAt w ao m news) (hnone : ao = none → c = 0) (hlen : l.length + m ≤ 140737488355328)
    (h : ∀ v' w', Own w' v' (l ++ news) → Ext w v l.length w' v' (l ++ news).length → wpList Try.prog ops Q rest (a.put o.dst v') w') : wpList Try.prog ops Q (o :: rest) a w :=
  wpList_plain hgd fun _ hK => wp_append_mine w s x ho v l hs hown ao m c news hx hb hnone hlen fun v' w' h2 h3 => hK _ _ (h v' w' h2 h3)

/-- At a step of a region that draws its order. -/
theorem step_append_mine (w : World) {ops : Array Oper} {o : Oper} {a : Act} {K : Act → World → Prop} {Q : Exit → Act → World → Prop} {E : Prop} (hgd : o.guard = none) (s x : Operand)
    (ho : o.op = .call { callee := .builtin .append, args := #[s, x], argTypes := #[22, 22] })
    (v : Value) (l : List UInt8) (hs : a.eval s = v) (hown : Own w v l) (ao : Option Addr) (m c : Nat) (news : List UInt8) (hx : a.eval x = .slice ao m c) (hb : BytesAt w ao m news) (hnone : ao = none → c = 0) (hlen : l.length + m ≤ 140737488355328)
    (h : ∀ v' w', Own w' v' (l ++ news) → Ext w v l.length w' v' (l ++ news).length → K (a.put o.dst v') w') :
    if Region.wanted o (yielded ops a.tmps) = true then Oper.wp Try.prog o a w K Q else E := by
  have hw : Region.wanted o (yielded ops a.tmps) = true := by simp [Region.wanted, hgd]
  rw [if_pos hw]
  exact wp_append_mine w s x ho v l hs hown ao m c news hx hb hnone hlen h

end Go.Proofs.Qxb6604654a

/-
  The statement Rows.FnWordSumAddListExactBoundedOrderFreeSaid, proved: the frame is the guide's own; one slice of pairs of words comes in.
-/
import Derived.Test.Qxb6604601aList
import Derived.ProofKit
import Derived.Deep.Slices
import Derived.OpenShut
import Derived.ChangeOld
namespace Go.Proofs.Qxb6604601a.fnWordSumAddListExactBoundedOrderFree
open Go.ChangeShapes Go.WideShapes Go.ChangeAt Go.RowKit Go.Deep

theorem own : ownKnob Try.prog.godebug = none := by kernel_rfl
theorem laidOut : laidOutB Try.prog = true := by kernel_rfl
theorem cells33 : Try.prog.cellsOf 33 = 2 := by kernel_rfl

theorem word_of_wf {x : Int} (h : (Lit.int .u64 x).wf = true) : Word x := by
  simp [Lit.wf, IntKind.min, IntKind.max, IntKind.signed, IntKind.bits] at h
  exact ⟨by omega, by omega⟩

/-- A slice of pairs that came in, as the walk wants it. -/
theorem pairs_of {D : Type} {enc : TypeId × Value → D} {W : World} {a : Option Addr} {len cap fuel : Nat} {x : DataW D × List MemPlace}
    (hf : DataW.trod enc Try.prog W 0 (fun _ => true) true fuel 30 (Value.slice a len cap).cells.toList = some x) :
    len ≤ 9223372036854775807 ∧ ∃ H L, PairsAt W a len H L ∧ (∀ j, j < len → Word (H j)) ∧ (∀ j, j < len → Word (L j)) := by
  rcases open_slice Try.underlying30 hf with ⟨hcs, _⟩ | ⟨x, l, c, m, n, DD, Pl, hcs, _, hl, hm, hz, _, hx⟩
  · simp [Value.cells] at hcs
    obtain ⟨rfl, rfl, rfl⟩ := hcs
    exact ⟨by omega, fun _ => 0, fun _ => 0, ⟨fun h => by omega⟩, fun j hj => by omega, fun j hj => by omega⟩
  · simp [Value.cells] at hcs
    obtain ⟨rfl, rfl, rfl⟩ := hcs
    unfold maxLen at hm
    simp only [if_true] at hz
    have each : ∀ i, i < m → ∃ q : Int × Int, W.cell? (x.add (i * 2)) = some (.int .u64 q.1) ∧ W.cell? (x.add (i * 2 + 1)) = some (.int .u64 q.2) ∧ Word q.1 ∧ Word q.2 := by
      intro i hi
      obtain ⟨cs', h1, h2⟩ := hx i hi
      rw [cells33] at h1
      obtain ⟨_, hlen, hcell⟩ := World.cells?_some h1
      obtain ⟨xs, k, hk, hxy, _, hxl, hel⟩ := DataW.trod_array Try.underlying33 h2
      match xs, hxl, cs', hlen with
      | [y0, y1], _, [v0, v1], _ =>
        have g0 := hel 0 (by omega)
        have g1 := hel 1 (by omega)
        simp [Try.cells22] at g0 g1
        obtain ⟨n0, e0, _, w0⟩ := DataW.trod_int Try.underlying22 g0
        obtain ⟨n1, e1, _, w1⟩ := DataW.trod_int Try.underlying22 g1
        simp at e0 e1
        subst e0 e1
        have c0 := hcell 0 (by omega)
        have c1 := hcell 1 (by omega)
        rw [add_add] at c0 c1
        exact ⟨(n0, n1), by simpa using c0, by simpa using c1, word_of_wf w0, word_of_wf w1⟩
    obtain ⟨q, hq⟩ := choose_lt each
    refine ⟨by omega, fun j => (q j).1, fun j => (q j).2, ⟨fun h => ?_⟩, fun j hj => (hq j (by omega)).2.2.1, fun j hj => (hq j (by omega)).2.2.2⟩
    obtain ⟨b, off, spot⟩ := x
    have hspot : spot = none := by simpa [Addr.add] using World.cell?_spot (hq 0 (by omega)).1
    subst hspot
    refine ⟨b, off, rfl, fun k hk => ?_⟩
    have := hq k (by omega)
    rw [add_plain, add_plain] at this
    exact ⟨this.1, this.2.1⟩

set_option maxRecDepth 100000 in
theorem lifted (os : Os) (started : os.Started) (H : Type) (enc : TypeId × Value → H) :
    ReturnsInHanded {} Try.checked os 4 .any (Rows.fnWordSumAddListExactBoundedOrderFreeSpec.pre6 enc Try.prog Try.f4 Rows.fnWordSumAddListExactBoundedOrderFreeRow.domain false) (Rows.fnWordSumAddListExactBoundedOrderFreeSpec.post enc Try.prog Try.f4 false true false false) := by
  refine returnsInHanded_of_change (C := Try.checked) own started (by kernel_rfl) Try.func4
    (ChangeSpec.witness6 (enc := enc) (C := Try.checked) false ⟨#[], #[.slice none 0 0], []⟩ 8 (by kernel_rfl) (by kernel_rfl) (by kernel_rfl) (by kernel_rfl)) ?_
  intro W base args ds gs before hval0 hW hcnd _
  have hval : ∀ (j : Nat) t v, Try.f4.params[j]? = some t → args[j]? = some v → Value.okWide Try.prog W .any base t v := hval0
  have hW' := hW
  obtain ⟨p, q, hA0, hV, rfl, hfz, hnd⟩ := hW
  have hA : DataW.TrodAll enc Try.prog W 0 (fun _ => true) true Try.f4.params.toList args.toList ds p := hA0
  rw [Try.params4] at hA hval
  obtain ⟨v0, vs0, d0, ds0, p0, q0, hargs, rfl, rfl, h0, r0⟩ := trodAll_cons hA
  obtain ⟨rfl, rfl, rfl⟩ := trodAll_nil r0
  obtain rfl : args = #[v0] := by cases args; simp_all
  obtain ⟨rfl, rfl⟩ := trodVars_none hV
  obtain ⟨a0, len0, cap0, rfl⟩ := okWide_slice Try.underlying30 (hval 0 30 v0 rfl rfl)
  have k0 := h0
  have lt0 : ∀ x ∈ p0, x.block < W.heap.size := by obtain ⟨m, hm⟩ := k0; exact DataW.trod_lt m _ _ _ hm
  obtain ⟨m0, hm0⟩ := h0
  obtain ⟨b0, H0, L0, s0, wh0, wl0⟩ := pairs_of hm0
  clear hA0 hval0
  refine (list_walk a0 len0 cap0 H0 L0 W s0 wh0 wl0 b0).mono fun e W' ⟨he, bel⟩ => ?_
  subst he
  exact ⟨_, rfl, _, _, _, [], _, [], hW', trodAll_mk1 (shut_bool Try.underlying4 _), (trodAll_mk1 (Below.trod laidOut (by kernel_rfl) (of_decide_eq_true (by kernel_rfl)) k0 bel lt0)), rfl, bel.frame _, fun h => by cases h⟩

theorem over : Rows.fnWordSumAddListExactBoundedOrderFreeRow.holds Try.pinned (OpenSpec.ofChange Rows.fnWordSumAddListExactBoundedOrderFreeSpec) :=
  OpenClaim.holds_of_wide 4 Try.f4 rfl rfl rfl rfl rfl rfl rfl ⟨rfl, rfl, rfl, rfl, rfl⟩ rfl rfl rfl rfl rfl (by kernel_rfl) Try.func4 (by kernel_rfl)
    (of_decide_eq_true (by kernel_rfl)) (by unfold Func.isWrapper; first | (rw [if_pos (by decide +kernel)]; kernel_rfl) | (rw [if_neg (by decide +kernel)]; exact ⟨rfl, rfl⟩))
    (fun os started H enc _ => lifted os started H enc)

/-- The statement. -/
theorem proved : Rows.FnWordSumAddListExactBoundedOrderFreeSaid := over
end Go.Proofs.Qxb6604601a.fnWordSumAddListExactBoundedOrderFree

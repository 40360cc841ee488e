/-
  slices.SortFunc on the pairs: the contract.
-/
import Derived.Test.Qxb6604654aSortLays
import Derived.Test.Qxb6604654aClosure
import Derived.Test.Qxb6604654aOrd
import Derived.Shelf.SlSortCmp.NoneTotal
namespace Go.Proofs.Qxb6604654a
open Go.RowKit Go.Sort Go.Shelf

/-- A key and a value, each with its bytes. -/
abbrev KV := (Value × List UInt8) × (Value × List UInt8)
def kvNil : KV := ((.slice none 0 0, []), (.slice none 0 0, []))
def kvAt (ps : List KV) (i : Nat) : KV := ps.getD i kvNil
def encKV (ps : List KV) (i : Nat) : List Value := [(kvAt ps i).1.1, (kvAt ps i).2.1]
def cellsKV (ps : List KV) : List Value := ps.flatMap fun p => [p.1.1, p.2.1]
def cfKV (ps : List KV) (i j : Nat) : Int := Lib.compareBytes (kvAt ps i).1.2 (kvAt ps j).1.2
def OwnKV (w : World) (p : KV) : Prop := Own w p.1.1 p.1.2 ∧ Own w p.2.1 p.2.2

theorem cellsKV_cons (p : KV) (ps : List KV) : cellsKV (p :: ps) = p.1.1 :: p.2.1 :: cellsKV ps := rfl
theorem cellsKV_append (ps qs : List KV) : cellsKV (ps ++ qs) = cellsKV ps ++ cellsKV qs := by simp [cellsKV]
theorem cellsKV_length (ps : List KV) : (cellsKV ps).length = ps.length * 2 := by
  induction ps with
  | nil => rfl
  | cons p ps ih => rw [cellsKV_cons, List.length_cons, List.length_cons, List.length_cons, ih]; omega
theorem kvAt_cons_succ (p : KV) (ps : List KV) (i : Nat) : kvAt (p :: ps) (i + 1) = kvAt ps i := rfl
theorem kvAt_lt (ps : List KV) (i : Nat) (h : i < ps.length) : kvAt ps i = ps[i] := by simp [kvAt, List.getD, h]
theorem cellsKV_even : ∀ (ps : List KV) (i : Nat), i < ps.length → (cellsKV ps)[2 * i]? = some (kvAt ps i).1.1 ∧ (cellsKV ps)[2 * i + 1]? = some (kvAt ps i).2.1
  | [], i, h => by simp at h
  | p :: ps, 0, _ => ⟨rfl, rfl⟩
  | p :: ps, i + 1, h => by
    have h' : i < ps.length := by simpa using h
    have := cellsKV_even ps i h'
    rw [cellsKV_cons, kvAt_cons_succ, show 2 * (i + 1) = 2 * i + 1 + 1 from by omega]
    exact this
theorem encKV_len (ps : List KV) (i : Nat) : (encKV ps i).length = 2 := rfl

/-- The pairs' cells as the sort writes them. -/
theorem flat_cells (ps : List KV) (d : Array Nat) : (flatK (encKV ps) 2 d).toList = cellsKV (d.toList.map (kvAt ps)) := by
  apply List.ext_getElem?
  intro t
  by_cases ht : t < d.size * 2
  · have h1 : (flatK (encKV ps) 2 d)[t]! = (encKV ps d[t / 2]!)[t % 2]! := get_flatK _ _ _ _ ht
    have hsz : t < (flatK (encKV ps) 2 d).size := by rw [size_flatK]; exact ht
    rw [getElem!_pos _ t hsz] at h1
    rw [Array.getElem?_toList, Array.getElem?_eq_getElem hsz, h1]
    have hi : t / 2 < d.size := by omega
    have hq := cellsKV_even (d.toList.map (kvAt ps)) (t / 2) (by simpa using hi)
    have hk : kvAt (d.toList.map (kvAt ps)) (t / 2) = kvAt ps d[t / 2]! := by
      rw [kvAt_lt _ _ (by simpa using hi)]
      simp [hi]
    rw [hk] at hq
    have hm : t % 2 = 0 ∨ t % 2 = 1 := by omega
    rcases hm with hm | hm
    · rw [hm, show t = 2 * (t / 2) from by omega]
      rw [show 2 * (t / 2) / 2 = t / 2 from by omega]
      rw [hq.1]
      rfl
    · rw [hm]
      have e : t = 2 * (t / 2) + 1 := by omega
      have := hq.2
      rw [← e] at this
      rw [this]
      rfl
  · rw [List.getElem?_eq_none (by rw [Array.length_toList, size_flatK]; omega), List.getElem?_eq_none (by rw [cellsKV_length]; simp; omega)]

theorem own_one {w : World} {v : Value} {l : List UInt8} (h : Own w v l) : v.oneCell' = true := by
  obtain ⟨ao, cap, rfl, _, _⟩ := h.shape
  rfl
theorem OwnKV.nil (w : World) : OwnKV w kvNil := ⟨Own.nil w, Own.nil w⟩
theorem OwnKV.at {w : World} {ps : List KV} (h : ∀ p ∈ ps, OwnKV w p) (i : Nat) : OwnKV w (kvAt ps i) := by
  by_cases hi : i < ps.length
  · rw [kvAt_lt ps i hi]
    exact h _ (List.getElem_mem hi)
  · have : kvAt ps i = kvNil := by unfold kvAt; rw [List.getD, List.getElem?_eq_none (by omega)]; rfl
    rw [this]
    exact OwnKV.nil w

/-- A row of bytes and a row of pairs are two rows. -/
theorem Own.ne_row {w : World} {v pv : Value} {l : List UInt8} {B n : Nat} {xs : List Value} (h : Own w v l) (hr : w.ownsRow B 64 2 pv n xs) {g : Nat} (h1 : v.ownBlock = some g) : pv.ownBlock ≠ some g := by
  intro h2
  rcases h.2 with ⟨rfl, _⟩ | ⟨g1, cap1, cur1, rfl, _, hb1, _⟩
  · simp [Value.ownBlock] at h1
  rcases hr.2 with ⟨rfl, _⟩ | ⟨g2, cap2, cur2, rfl, _, hb2, _⟩
  · simp [Value.ownBlock] at h2
  simp only [Value.ownBlock, Option.some.injEq] at h1 h2
  subst h1 h2
  rw [hb1] at hb2
  simp at hb2
theorem Own.grownBy {w w' : World} {v pv : Value} {l : List UInt8} {B n : Nat} {xs : List Value} (h : Own w v l) (hr : w.ownsRow B 64 2 pv n xs) (hg : w.grownBy w' pv.ownBlock) : Own w' v l :=
  h.block fun k hk => hg.block k (h.lt hk) fun e => h.ne_row hr hk e.symm
theorem OwnKV.grownBy {w w' : World} {p : KV} {pv : Value} {B n : Nat} {xs : List Value} (h : OwnKV w p) (hr : w.ownsRow B 64 2 pv n xs) (hg : w.grownBy w' pv.ownBlock) : OwnKV w' p := ⟨h.1.grownBy hr hg, h.2.grownBy hr hg⟩

theorem grownBy_sortedK {α : Type} [Inhabited α] (enc : α → List Value) {w : World} {g n : Nat} {os : Array Obj} (d : Array α) : w.grownBy (sortWorldK enc 2 w g 0 n d os) (some g) := by
  refine ⟨rfl, rfl, rfl, by simp [sortWorldK, putRowK], fun k hk hne => ?_⟩
  unfold sortWorldK
  rw [heap_grow_old _ _ (by simpa [putRowK] using hk)]
  have : g ≠ k := fun e => hne (by rw [e])
  simp [putRowK, putRow, mapBlock, Sort.ahead, Array.getElem?_modify, this]
theorem heap_sortedK {α : Type} [Inhabited α] (enc : α → List Value) {w : World} {g n : Nat} {os : Array Obj} {cur : Array Value} {e : TypeId} {fr : Nat × Nat} (d : Array α) (hb : w.heap[g]? = some (.cells cur e fr)) :
    (sortWorldK enc 2 w g 0 n d os).heap[g]? = some (.cells (putCells id 0 (flatK enc 2 d) cur) e fr) := by
  have hg : g < w.heap.size := (Array.getElem?_eq_some_iff.1 hb).1
  unfold sortWorldK
  rw [heap_grow_old _ _ (by simpa [putRowK] using hg)]
  simp [putRowK, putRow, mapBlock, Sort.ahead, Array.getElem?_modify, hb, onCells]
theorem take_putCellsK (cur F : Array Value) (h : F.size ≤ cur.size) : (putCells id 0 F cur).toList.take F.size = F.toList := by
  apply List.ext_getElem?
  intro j
  by_cases hj : j < F.size
  · rw [List.getElem?_take_of_lt hj, Array.getElem?_toList]
    simp [putCells, hj, show j < cur.size by omega]
  · rw [List.getElem?_take_eq_none (by omega), List.getElem?_eq_none (by simp; omega)]

theorem swoKV (ps : List KV) : SWO (ltOf (cfKV ps)) where
  irrefl x := by unfold ltOf cfKV; rw [cmpB_self]; rfl
  trans x y z h1 h2 := by
    unfold ltOf cfKV at *
    exact decide_eq_true (cmpB_trans _ _ _ (of_decide_eq_true h1) (of_decide_eq_true h2))
  ntrans x y z h1 h2 := by
    unfold ltOf cfKV at *
    have a1 := of_decide_eq_false h1
    have a2 := of_decide_eq_false h2
    have b1 : leB (kvAt ps y).1.2 (kvAt ps x).1.2 := by unfold leB; rw [cmpB_swap (kvAt ps x).1.2]; omega
    have b2 : leB (kvAt ps z).1.2 (kvAt ps y).1.2 := by unfold leB; rw [cmpB_swap (kvAt ps y).1.2]; omega
    have b3 := leB_trans b2 b1
    unfold leB at b3
    rw [cmpB_swap (kvAt ps x).1.2] at b3
    exact decide_eq_false (by omega)

theorem cmpKV (ps : List KV) (B : Nat) (pv : Value) (w : World) (g size : Nat) (hg : pv.ownBlock = some g) (hrow : w.ownsRow B 64 2 pv ps.length (cellsKV ps)) (hps : ∀ p ∈ ps, OwnKV w p) :
    CmpLays Try.prog 36 #[] (encKV ps) 2 (cfKV ps) g 0 size w := by
  intro m os dk _ x y
  have hgr := grownBy_sortedK (encKV ps) (w := w) (g := g) (n := m) (os := os) dk
  rw [← hg] at hgr
  generalize sortWorldK (encKV ps) 2 w g 0 m dk os = W at *
  have hx : OwnKV W (kvAt ps x) := (OwnKV.at hps x).grownBy hrow hgr
  have hy : OwnKV W (kvAt ps y) := (OwnKV.at hps y).grownBy hrow hgr
  unfold encKV cfKV
  generalize kvAt ps x = p at *
  generalize kvAt ps y = q at *
  obtain ⟨⟨pk, pl⟩, ⟨pv', pl'⟩⟩ := p
  obtain ⟨⟨qk, ql⟩, ⟨qv', ql'⟩⟩ := q
  obtain ⟨hx1, hx2⟩ := hx
  obtain ⟨hy1, hy2⟩ := hy
  simp only at hx1 hx2 hy1 hy2 ⊢
  obtain ⟨ao, cap, rfl, _, _⟩ := hx1.shape
  obtain ⟨ao2, cap2, rfl, _, _⟩ := hy1.shape
  refine (closure_any ao pl.length cap pl pv' ao2 ql.length cap2 ql qv' W hx1.bytes hy1.bytes (own_one hx2) (own_one hy2)).mono ?_
  rintro e w' ⟨rfl, rfl⟩
  exact ⟨rfl, 0, _, by rw [alloc_eq_grow, alloc_eq_grow, grow_grow]; rfl⟩

theorem holdsKV (ps : List KV) (w : World) (g cap : Nat) (cur : Array Value) (hb : w.heap[g]? = some (.cells cur 64 (0, 0))) (_hcs : cur.size = cap * 2) (_hnc : ps.length ≤ cap) (ht : cur.toList.take (ps.length * 2) = cellsKV ps) :
    HoldsK (encKV ps) 2 w g 0 (Array.range ps.length) := by
  intro j hj
  rw [size_flatK, Array.size_range] at hj
  refine ⟨?_, by simp [World.frozen?, hb]⟩
  have e : (flatK (encKV ps) 2 (Array.range ps.length)).toList = cellsKV ps := by
    rw [flat_cells]
    congr 1
    apply List.ext_getElem?
    intro i
    by_cases hi : i < ps.length
    · simp [hi, kvAt]
    · simp [hi]
  have h1 : (cur.toList.take (ps.length * 2))[j]? = (flatK (encKV ps) 2 (Array.range ps.length)).toList[j]? := by rw [ht, e]
  rw [List.getElem?_take_of_lt hj] at h1
  simp only [World.cell?, hb, Nat.zero_add]
  simp only [Option.isSome_none, Bool.false_eq_true, if_false]
  have hsz : j < (flatK (encKV ps) 2 (Array.range ps.length)).size := by rw [size_flatK, Array.size_range]; exact hj
  rw [← Array.getElem?_toList, h1, Array.getElem?_toList, getElem!_pos _ j hsz, Array.getElem?_eq_getElem hsz]
  rfl

/-- The sort: the same row holds the pairs in ascending order of their keys. -/
theorem sort_pairs (ps : List KV) (B : Nat) (pv : Value) (w : World) (hrow : w.ownsRow B 64 2 pv ps.length (cellsKV ps)) (hps : ∀ p ∈ ps, OwnKV w p) (hlen : ps.length < 4611686018427387904) :
    Calls Try.prog 35 #[pv, .func (.func 36) #[] #[]] w fun e w' => e = .returned (.tuple #[]) ∧ ∃ qs : List KV, qs.Perm ps ∧ qs.Pairwise (fun p q => leB p.1.2 q.1.2) ∧ w'.ownsRow B 64 2 pv qs.length (cellsKV qs) ∧ w.grownBy w' pv.ownBlock := by
  by_cases h0 : ps.length = 0
  · have hv : ∃ ao cap, pv = .slice ao 0 cap := by
      rcases hrow.2 with ⟨rfl, _⟩ | ⟨g, cap, cur, rfl, _⟩
      · exact ⟨_, _, rfl⟩
      · exact ⟨_, _, by rw [h0]⟩
    obtain ⟨ao, cap, rfl⟩ := hv
    have h := AnyF.slices_SortFunc_none Try.sortLays ao cap (.func (.func 36) #[] #[]) w
    change Calls Try.prog 35 _ _ _ at h
    refine h.mono ?_
    rintro e w' ⟨rfl, rfl⟩
    obtain rfl : ps = [] := List.eq_nil_of_length_eq_zero h0
    exact ⟨rfl, [], List.Perm.refl _, List.Pairwise.nil, hrow, World.grownBy.refl _ _⟩
  have hrow' := hrow
  rcases hrow.2 with ⟨_, h1⟩ | ⟨g, cap, cur, rfl, hB, hb, hnc, hcm, hcs, ht⟩
  · exact absurd h1 h0
  have hH := holdsKV ps w g cap cur hb hcs hnc ht
  have hblk : g < w.heap.size := (Array.getElem?_eq_some_iff.1 hb).1
  have eg : ∀ args w, (callFunc 36 args).run Try.prog w = .ok (.enter 36 args) w := enters_of Try.func36 (by kernel_rfl) rfl
  have h := AnyQ.slices_SortFunc Try.sortLays 2 Try.isAgg64 Try.sizeOf64 (encKV ps) (encKV_len ps) (fun x v hv => by
    have := OwnKV.at hps x
    simp only [encKV, List.mem_cons, List.not_mem_nil, or_false] at hv
    rcases hv with rfl | rfl
    · exact own_one this.1
    · exact own_one this.2) (cfKV ps) (swoKV ps) 36 #[] g 0 cap (Array.range ps.length) w eg (cmpKV ps B _ w g _ rfl hrow' hps) hH hblk (by rw [Array.size_range]; exact hlen)
  rw [Array.size_range] at h
  change Calls Try.prog 35 _ _ _ at h
  refine h.mono ?_
  rintro e w' ⟨rfl, d', n, os, hp, hs, rfl⟩
  obtain ⟨hsz, _, hperm⟩ := hp
  rw [Array.size_range] at hsz
  have er : (Array.range ps.length).toList.map (kvAt ps) = ps := by
    apply List.ext_getElem?
    intro i
    by_cases hi : i < ps.length
    · simp [hi, kvAt]
    · simp [hi]
  refine ⟨rfl, d'.toList.map (kvAt ps), ?_, ?_, ?_, ?_⟩
  · have e1 : d'.extract 0 ps.length = d' := by rw [← hsz]; exact Array.extract_size
    have e2 : (Array.range ps.length).extract 0 ps.length = Array.range ps.length := by
      have := Array.extract_size (xs := Array.range ps.length)
      rwa [Array.size_range] at this
    rw [e1, e2] at hperm
    have := hperm.map (kvAt ps)
    rwa [er] at this
  · rw [List.pairwise_iff_getElem]
    intro i j hi hj hij
    rw [List.length_map, Array.length_toList] at hi hj
    have := hs i j (Nat.zero_le _) hij (by omega)
    rw [getElem!_pos d' i hi, getElem!_pos d' j hj] at this
    unfold ltOf cfKV at this
    have h2 := of_decide_eq_false this
    rw [List.getElem_map, List.getElem_map, Array.getElem_toList, Array.getElem_toList]
    unfold leB
    rw [cmpB_swap (kvAt ps d'[j]).1.2]
    omega
  · refine ⟨cellsKV_length _, .inr ⟨g, cap, putCells id 0 (flatK (encKV ps) 2 d') cur, ?_, hB, heap_sortedK (encKV ps) d' hb, ?_, hcm, by simp [putCells, hcs], ?_⟩⟩
    · rw [List.length_map, show d'.toList.length = ps.length from by rw [Array.length_toList, hsz]]
    · rw [List.length_map, Array.length_toList, hsz]; exact hnc
    · rw [← flat_cells, List.length_map, Array.length_toList]
      have := take_putCellsK cur (flatK (encKV ps) 2 d') (by rw [size_flatK, hcs, hsz]; omega)
      rwa [size_flatK] at this
  · exact grownBy_sortedK (encKV ps) d'

end Go.Proofs.Qxb6604654a

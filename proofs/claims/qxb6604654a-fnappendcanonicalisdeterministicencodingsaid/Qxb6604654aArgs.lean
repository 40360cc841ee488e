/-
  A slice of bytes that came in, as the walks want it.
-/
import Derived.Test.Qxb6604654aBytes
namespace Go.Proofs.Qxb6604654a

/-- Such a row of bytes, as the walk wants it. -/
theorem bytes_of_row {w : World} {a : Option Addr} {len cap : Nat} {zs : List Int} 
    (h : (a = none ∧ len = 0 ∧ cap = 0 ∧ zs = []) ∨ ∃ x, a = some x ∧ len ≤ cap ∧ cap ≤ maxLen ∧ zs.length = cap ∧ (∀ i, i < zs.length → w.cell? (x.add i) = some (.int .u8 (zs.getD i 0))) ∧ ∀ n ∈ zs, (Lit.int .u8 n).wf = true) : ∃ l, BytesAt w a len l ∧ len ≤ 9223372036854775807 := by
  rcases h with ⟨rfl, rfl, rfl, rfl⟩ | ⟨x, rfl, hl, hm, hz, hc, hw⟩
  · exact ⟨[], ⟨rfl, fun h => by omega⟩, by omega⟩
  · unfold maxLen at hm
    have hb : ∀ k, k < len → 0 ≤ zs.getD k 0 ∧ zs.getD k 0 < 256 := by
      intro k hk
      have hm : zs.getD k 0 ∈ zs := by
        rw [List.getD, List.getElem?_eq_getElem (by omega)]
        exact List.getElem_mem _
      have := hw _ hm
      simp [Lit.wf, IntKind.min, IntKind.max, IntKind.signed, IntKind.bits] at this
      rw [List.getD]
      omega
    have hlen : ((zs.take len).map fun z => UInt8.ofNat z.toNat).length = len := by simp; omega
    have hbyte : ∀ k, k < len → byteAt ((zs.take len).map fun z => UInt8.ofNat z.toNat) k = zs.getD k 0 := by
      intro k hk
      have := hb k hk
      unfold byteAt
      rw [List.getD, List.getElem?_map, List.getElem?_take, if_pos hk, List.getElem?_eq_getElem (by omega)]
      rw [List.getD, List.getElem?_eq_getElem (by omega)] at this ⊢
      simp only [Option.map_some, Option.getD_some] at this ⊢
      rw [UInt8.toNat_ofNat']
      omega
    refine ⟨_, ⟨hlen, fun h => ?_⟩, by omega⟩
    obtain ⟨b, off, spot⟩ := x
    have hspot : spot = none := by simpa [Addr.add] using World.cell?_spot (hc 0 (by omega))
    subst hspot
    refine ⟨b, off, rfl, fun k hk => ?_⟩
    rw [hbyte k hk, ← Addr.add_lit]
    exact hc k (by omega)

end Go.Proofs.Qxb6604654a

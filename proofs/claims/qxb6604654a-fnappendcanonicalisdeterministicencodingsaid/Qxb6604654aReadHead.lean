/-
  zzReadHead: the contract.
-/
import Derived.Test.Qxb6604654aBools
import Derived.Test.Qxb6604654aHead
import Derived.Test.Qxb6604654aCbor
namespace Go.Proofs.Qxb6604654a
open Go.RowKit

theorem byteAt_nb (l : List UInt8) (k : Nat) : byteAt l k = (nb l k : Int) := rfl

/-- acc << 8 | b. -/
theorem or8 (B b : Nat) (hB : B < 72057594037927936) (hb : b < 256) : bits .or .u64 ((B : Int) * 256) (b : Int) = (B : Int) * 256 + (b : Int) := by
  rw [u64_or ((B : Int) * 256) (b : Int) (by omega) (by omega) (by omega) (by omega)]
  have e : ((B : Int) * 256).toNat = B * 2 ^ 8 := by omega
  have e2 : ((b : Int)).toNat = b := by omega
  rw [e, e2, nat_join 8 (B * 2 ^ 8) b (by simp) (by omega)]
  omega

theorem be_bound (l : List UInt8) (p k : Nat) (hk : k ≤ 7) : be l p k < 72057594037927936 := by
  have h1 := be_lt l p k
  have h2 : 256 ^ k ≤ 256 ^ 7 := Nat.pow_le_pow_right (by decide) hk
  have h3 : 256 ^ 7 = 72057594037927936 := by decide
  omega

theorem readHead_small (ao : Option Addr) (n cap : Nat) (l : List UInt8) (w : World) (pos : Nat) (h : BytesAt w ao n l) (hn : n ≤ 1099511627776) (hp : pos < n) (hs : nb l pos % 32 < 24) :
    Calls Try.prog 20 #[.slice ao n cap, .int .i64 pos] w fun e w' => e = .returned (.tuple #[.int .u8 ((nb l pos : Int) / 32), .int .u8 ((nb l pos : Int) % 32), .int .u64 ((nb l pos : Int) % 32), .int .i64 ((pos : Int) + 1)]) ∧ w' = w := by
  obtain ⟨b, off, rfl, hc⟩ := h.cells (by omega)
  have c0 := hc pos hp
  rw [byteAt_nb] at c0
  have hb := nb_lt l pos
  have ha := and31 (nb l pos) (by omega) (by omega)
  have hs' : (nb l pos : Int) % 32 < 24 := by omega
  clear h hc hs
  generalize nb l pos = x at *
  go_enter Try.func20, Try.ntmps20
  go_wp2
  exact bodyPost_ret (v := .tuple #[.int .u8 ((x : Int) / 32), .int .u8 ((x : Int) % 32), .int .u64 ((x : Int) % 32), .int .i64 ((pos : Int) + 1)]) (by simp [results, Try.results20, go_sem]) rfl ⟨rfl, rfl⟩

set_option maxHeartbeats 400000 in
theorem readHead_24 (ao : Option Addr) (n cap : Nat) (l : List UInt8) (w : World) (pos : Nat) (h : BytesAt w ao n l) (hn : n ≤ 1099511627776) (hp : pos + 1 < n) (hs : nb l pos % 32 = 24) :
    Calls Try.prog 20 #[.slice ao n cap, .int .i64 pos] w fun e w' => e = .returned (.tuple #[.int .u8 ((nb l pos : Int) / 32), .int .u8 24, .int .u64 (be l (pos + 1) 1 : Nat), .int .i64 ((pos : Int) + 2)]) ∧ w' = w := by
  obtain ⟨b, off, rfl, hc⟩ := h.cells (by omega)
  have HC : Hid (∀ k, k < n → w.cell? ⟨b, off + k, none⟩ = some (.int .u8 (byteAt l k))) := hc
  have c0 := hc pos (by omega)
  rw [byteAt_nb] at c0
  have hb := nb_lt l pos
  have ha := and31 (nb l pos) (by omega) (by omega)
  have hs' : (nb l pos : Int) % 32 = 24 := by omega
  clear h hc hs
  generalize nb l pos = x at *
  go_enter Try.func20, Try.ntmps20
  go_wp2
  go_loop [12, 13] (fun r i => ∃ k : Nat, k ≤ 1 ∧ i = .int .i64 k ∧ r = .int .u64 (be l (pos + 1) k : Nat)) (fun _ i => 1 - (intOf i).toNat)
  case atStart => exact ⟨0, by omega, rfl, rfl⟩
  case round =>
    obtain ⟨k, hk, rfl, rfl⟩ := hrel
    by_cases hlt : k < 1
    · have ck := HC.out (pos + 1 + k) (by omega)
      rw [byteAt_nb] at ck
      have hB := be_bound l (pos + 1) k (by omega)
      have hb2 := nb_lt l (pos + 1 + k)
      have ho := or8 (be l (pos + 1) k) (nb l (pos + 1 + k)) hB hb2
      have HE : Hid ((be l (pos + 1) (k + 1) : Int) = (be l (pos + 1) k : Int) * 256 + (nb l (pos + 1 + k) : Int)) := by
        show ((be l (pos + 1) (k + 1) : Nat) : Int) = _
        rw [be]; omega
      generalize be l (pos + 1) k = B at *
      generalize nb l (pos + 1 + k) = y at *
      go_wp2
      go_round
      case rel => exact ⟨k + 1, by omega, by go_num, by rw [HE.out]⟩
      case measure => simp [intOf]; omega
    · obtain rfl : k = 1 := by omega
      go_wp2
      exact bodyPost_ret (v := .tuple #[.int .u8 ((x : Int) / 32), .int .u8 24, .int .u64 (be l (pos + 1) 1 : Nat), .int .i64 ((pos : Int) + 2)]) (by simp [results, Try.results20, go_sem]; try omega) rfl ⟨rfl, rfl⟩

set_option maxHeartbeats 400000 in
theorem readHead_25 (ao : Option Addr) (n cap : Nat) (l : List UInt8) (w : World) (pos : Nat) (h : BytesAt w ao n l) (hn : n ≤ 1099511627776) (hp : pos + 2 < n) (hs : nb l pos % 32 = 25) :
    Calls Try.prog 20 #[.slice ao n cap, .int .i64 pos] w fun e w' => e = .returned (.tuple #[.int .u8 ((nb l pos : Int) / 32), .int .u8 25, .int .u64 (be l (pos + 1) 2 : Nat), .int .i64 ((pos : Int) + 3)]) ∧ w' = w := by
  obtain ⟨b, off, rfl, hc⟩ := h.cells (by omega)
  have HC : Hid (∀ k, k < n → w.cell? ⟨b, off + k, none⟩ = some (.int .u8 (byteAt l k))) := hc
  have c0 := hc pos (by omega)
  rw [byteAt_nb] at c0
  have hb := nb_lt l pos
  have ha := and31 (nb l pos) (by omega) (by omega)
  have hs' : (nb l pos : Int) % 32 = 25 := by omega
  clear h hc hs
  generalize nb l pos = x at *
  go_enter Try.func20, Try.ntmps20
  go_wp2
  go_loop [12, 13] (fun r i => ∃ k : Nat, k ≤ 2 ∧ i = .int .i64 k ∧ r = .int .u64 (be l (pos + 1) k : Nat)) (fun _ i => 2 - (intOf i).toNat)
  case atStart => exact ⟨0, by omega, rfl, rfl⟩
  case round =>
    obtain ⟨k, hk, rfl, rfl⟩ := hrel
    by_cases hlt : k < 2
    · have ck := HC.out (pos + 1 + k) (by omega)
      rw [byteAt_nb] at ck
      have hB := be_bound l (pos + 1) k (by omega)
      have hb2 := nb_lt l (pos + 1 + k)
      have ho := or8 (be l (pos + 1) k) (nb l (pos + 1 + k)) hB hb2
      have HE : Hid ((be l (pos + 1) (k + 1) : Int) = (be l (pos + 1) k : Int) * 256 + (nb l (pos + 1 + k) : Int)) := by
        show ((be l (pos + 1) (k + 1) : Nat) : Int) = _
        rw [be]; omega
      generalize be l (pos + 1) k = B at *
      generalize nb l (pos + 1 + k) = y at *
      go_wp2
      go_round
      case rel => exact ⟨k + 1, by omega, by go_num, by rw [HE.out]⟩
      case measure => simp [intOf]; omega
    · obtain rfl : k = 2 := by omega
      go_wp2
      exact bodyPost_ret (v := .tuple #[.int .u8 ((x : Int) / 32), .int .u8 25, .int .u64 (be l (pos + 1) 2 : Nat), .int .i64 ((pos : Int) + 3)]) (by simp [results, Try.results20, go_sem]; try omega) rfl ⟨rfl, rfl⟩

set_option maxHeartbeats 400000 in
theorem readHead_26 (ao : Option Addr) (n cap : Nat) (l : List UInt8) (w : World) (pos : Nat) (h : BytesAt w ao n l) (hn : n ≤ 1099511627776) (hp : pos + 4 < n) (hs : nb l pos % 32 = 26) :
    Calls Try.prog 20 #[.slice ao n cap, .int .i64 pos] w fun e w' => e = .returned (.tuple #[.int .u8 ((nb l pos : Int) / 32), .int .u8 26, .int .u64 (be l (pos + 1) 4 : Nat), .int .i64 ((pos : Int) + 5)]) ∧ w' = w := by
  obtain ⟨b, off, rfl, hc⟩ := h.cells (by omega)
  have HC : Hid (∀ k, k < n → w.cell? ⟨b, off + k, none⟩ = some (.int .u8 (byteAt l k))) := hc
  have c0 := hc pos (by omega)
  rw [byteAt_nb] at c0
  have hb := nb_lt l pos
  have ha := and31 (nb l pos) (by omega) (by omega)
  have hs' : (nb l pos : Int) % 32 = 26 := by omega
  clear h hc hs
  generalize nb l pos = x at *
  go_enter Try.func20, Try.ntmps20
  go_wp2
  go_loop [12, 13] (fun r i => ∃ k : Nat, k ≤ 4 ∧ i = .int .i64 k ∧ r = .int .u64 (be l (pos + 1) k : Nat)) (fun _ i => 4 - (intOf i).toNat)
  case atStart => exact ⟨0, by omega, rfl, rfl⟩
  case round =>
    obtain ⟨k, hk, rfl, rfl⟩ := hrel
    by_cases hlt : k < 4
    · have ck := HC.out (pos + 1 + k) (by omega)
      rw [byteAt_nb] at ck
      have hB := be_bound l (pos + 1) k (by omega)
      have hb2 := nb_lt l (pos + 1 + k)
      have ho := or8 (be l (pos + 1) k) (nb l (pos + 1 + k)) hB hb2
      have HE : Hid ((be l (pos + 1) (k + 1) : Int) = (be l (pos + 1) k : Int) * 256 + (nb l (pos + 1 + k) : Int)) := by
        show ((be l (pos + 1) (k + 1) : Nat) : Int) = _
        rw [be]; omega
      generalize be l (pos + 1) k = B at *
      generalize nb l (pos + 1 + k) = y at *
      go_wp2
      go_round
      case rel => exact ⟨k + 1, by omega, by go_num, by rw [HE.out]⟩
      case measure => simp [intOf]; omega
    · obtain rfl : k = 4 := by omega
      go_wp2
      exact bodyPost_ret (v := .tuple #[.int .u8 ((x : Int) / 32), .int .u8 26, .int .u64 (be l (pos + 1) 4 : Nat), .int .i64 ((pos : Int) + 5)]) (by simp [results, Try.results20, go_sem]; try omega) rfl ⟨rfl, rfl⟩

set_option maxHeartbeats 400000 in
theorem readHead_27 (ao : Option Addr) (n cap : Nat) (l : List UInt8) (w : World) (pos : Nat) (h : BytesAt w ao n l) (hn : n ≤ 1099511627776) (hp : pos + 8 < n) (hs : nb l pos % 32 = 27) :
    Calls Try.prog 20 #[.slice ao n cap, .int .i64 pos] w fun e w' => e = .returned (.tuple #[.int .u8 ((nb l pos : Int) / 32), .int .u8 27, .int .u64 (be l (pos + 1) 8 : Nat), .int .i64 ((pos : Int) + 9)]) ∧ w' = w := by
  obtain ⟨b, off, rfl, hc⟩ := h.cells (by omega)
  have HC : Hid (∀ k, k < n → w.cell? ⟨b, off + k, none⟩ = some (.int .u8 (byteAt l k))) := hc
  have c0 := hc pos (by omega)
  rw [byteAt_nb] at c0
  have hb := nb_lt l pos
  have ha := and31 (nb l pos) (by omega) (by omega)
  have hs' : (nb l pos : Int) % 32 = 27 := by omega
  clear h hc hs
  generalize nb l pos = x at *
  go_enter Try.func20, Try.ntmps20
  go_wp2
  go_loop [12, 13] (fun r i => ∃ k : Nat, k ≤ 8 ∧ i = .int .i64 k ∧ r = .int .u64 (be l (pos + 1) k : Nat)) (fun _ i => 8 - (intOf i).toNat)
  case atStart => exact ⟨0, by omega, rfl, rfl⟩
  case round =>
    obtain ⟨k, hk, rfl, rfl⟩ := hrel
    by_cases hlt : k < 8
    · have ck := HC.out (pos + 1 + k) (by omega)
      rw [byteAt_nb] at ck
      have hB := be_bound l (pos + 1) k (by omega)
      have hb2 := nb_lt l (pos + 1 + k)
      have ho := or8 (be l (pos + 1) k) (nb l (pos + 1 + k)) hB hb2
      have HE : Hid ((be l (pos + 1) (k + 1) : Int) = (be l (pos + 1) k : Int) * 256 + (nb l (pos + 1 + k) : Int)) := by
        show ((be l (pos + 1) (k + 1) : Nat) : Int) = _
        rw [be]; omega
      generalize be l (pos + 1) k = B at *
      generalize nb l (pos + 1 + k) = y at *
      go_wp2
      go_round
      case rel => exact ⟨k + 1, by omega, by go_num, by rw [HE.out]⟩
      case measure => simp [intOf]; omega
    · obtain rfl : k = 8 := by omega
      go_wp2
      exact bodyPost_ret (v := .tuple #[.int .u8 ((x : Int) / 32), .int .u8 27, .int .u64 (be l (pos + 1) 8 : Nat), .int .i64 ((pos : Int) + 9)]) (by simp [results, Try.results20, go_sem]; try omega) rfl ⟨rfl, rfl⟩

/-- zzReadHead: the four numbers of the head at pos. -/
theorem readHead_any (ao : Option Addr) (n cap : Nat) (l : List UInt8) (w : World) (pos : Nat) (h : BytesAt w ao n l) (hn : n ≤ 1099511627776) (hok : headOk (l.drop pos) = true) :
    Calls Try.prog 20 #[.slice ao n cap, .int .i64 pos] w fun e w' =>
      e = .returned (.tuple #[.int .u8 (hmaj (l.drop pos) : Nat), .int .u8 (hinfo (l.drop pos) : Nat), .int .u64 (harg (l.drop pos) : Nat), .int .i64 ((pos + hl (l.drop pos) : Nat))]) ∧ w' = w := by
  rw [headOk_iff, List.length_drop, h.len] at hok
  obtain ⟨h1, h2⟩ := hok
  have e0 : nb (l.drop pos) 0 = nb l pos := by rw [nb_drop, Nat.add_zero]
  have em : hmaj (l.drop pos) = nb l pos / 32 := by unfold hmaj; rw [e0]
  have ei : hinfo (l.drop pos) = nb l pos % 32 := by unfold hinfo; rw [e0]
  have ea : harg (l.drop pos) = if nb l pos % 32 < 24 then nb l pos % 32 else be l (pos + 1) (wide (nb l pos % 32)) := by
    unfold harg; rw [ei, be_drop]
  have eh : hl (l.drop pos) = 1 + wide (nb l pos % 32) := by unfold hl; rw [ei]
  rw [em, ei, ea, eh]
  rw [eh] at h2
  rw [ei] at h1
  have hlt : nb l pos % 32 < 24 ∨ nb l pos % 32 = 24 ∨ nb l pos % 32 = 25 ∨ nb l pos % 32 = 26 ∨ nb l pos % 32 = 27 := by omega
  rcases hlt with hs | hs | hs | hs | hs
  · have ew : wide (nb l pos % 32) = 0 := by unfold wide; rw [if_pos hs]
    rw [ew] at h2 ⊢
    rw [if_pos hs]
    have := readHead_small ao n cap l w pos h hn (by omega) hs
    simpa using this
  · have ew : wide (nb l pos % 32) = 1 := by rw [hs]; rfl
    rw [ew] at h2 ⊢
    rw [if_neg (by omega), hs]
    have := readHead_24 ao n cap l w pos h hn (by omega) hs
    simpa using this
  · have ew : wide (nb l pos % 32) = 2 := by rw [hs]; rfl
    rw [ew] at h2 ⊢
    rw [if_neg (by omega), hs]
    have := readHead_25 ao n cap l w pos h hn (by omega) hs
    simpa using this
  · have ew : wide (nb l pos % 32) = 4 := by rw [hs]; rfl
    rw [ew] at h2 ⊢
    rw [if_neg (by omega), hs]
    have := readHead_26 ao n cap l w pos h hn (by omega) hs
    simpa using this
  · have ew : wide (nb l pos % 32) = 8 := by rw [hs]; rfl
    rw [ew] at h2 ⊢
    rw [if_neg (by omega), hs]
    have := readHead_27 ao n cap l w pos h hn (by omega) hs
    simpa using this

end Go.Proofs.Qxb6604654a

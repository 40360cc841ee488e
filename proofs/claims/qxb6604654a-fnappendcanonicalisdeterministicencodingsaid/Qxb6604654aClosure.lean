/-
  The comparison that appendCanonicalMap hands to the sort: the contract.
-/
import Derived.Test.Qxb6604654aCompare
import Derived.Test.Qxb6604654aAppRun
namespace Go.Proofs.Qxb6604654a
open Go.RowKit

set_option maxHeartbeats 400000 in
theorem closure_any (ao : Option Addr) (n cap : Nat) (l : List UInt8) (v1 : Value) (ao2 : Option Addr) (n2 cap2 : Nat) (l2 : List UInt8) (v2 : Value) (w : World) (h : BytesAt w ao n l) (h2 : BytesAt w ao2 n2 l2) (_hv1 : v1.oneCell' = true) (_hv2 : v2.oneCell' = true) :
    Calls Try.prog 36 #[.agg #[.slice ao n cap, v1], .agg #[.slice ao2 n2 cap2, v2]] w fun e w' => e = .returned (.int .i64 (Lib.compareBytes l l2)) ∧ w' = (w.alloc (.cells #[.slice ao n cap, v1] 64)).alloc (.cells #[.slice ao2 n2 cap2, v2] 64) := by
  have HB : Hid _ := bytesCompare_any ao n cap l ao2 n2 cap2 l2 _ (h.mono (((Below.refl _ w).alloc (Nat.le_refl _) (.cells #[.slice ao n cap, v1] 64)).alloc (by simp) (.cells #[.slice ao2 n2 cap2, v2] 64))) (h2.mono (((Below.refl _ w).alloc (Nat.le_refl _) (.cells #[.slice ao n cap, v1] 64)).alloc (by simp) (.cells #[.slice ao2 n2 cap2, v2] 64)))
  clear h h2
  generalize Lib.compareBytes l l2 = R at *
  go_enter Try.func36, Try.ntmps36
  go_wp2_with fail
  refine Calls.mono HB.out ?_
  rintro e w' ⟨rfl, rfl⟩
  clear HB
  go_wp2_with fail
  go_ret
  exact ⟨rfl, rfl⟩

end Go.Proofs.Qxb6604654a

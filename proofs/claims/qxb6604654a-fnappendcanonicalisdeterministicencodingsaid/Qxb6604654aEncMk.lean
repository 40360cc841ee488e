/-
  Plain: Enc by its major types.
-/
import Derived.Test.Qxb6604654aEnc
namespace Go.Proofs.Qxb6604654a

theorem Enc_mk01 {f : Nat} {l : List UInt8} {m x : Nat} (hm : hmaj l = m) (hx : harg l = x) (h : m = 0 ∨ m = 1) : Enc (f + 1) l (ehead m x) := by
  rw [Enc, hm, hx, if_neg (by omega), if_neg (by omega), if_neg (by omega), if_neg (by omega), if_neg (by omega)]
theorem Enc_mk23 {f : Nat} {l : List UInt8} {m x q : Nat} (hm : hmaj l = m) (hx : harg l = x) (hq : hl l = q) (h : m = 2 ∨ m = 3) : Enc (f + 1) l (ehead m x ++ (l.drop q).take x) := by
  rw [Enc, hm, hx, hq, if_pos h]
theorem Enc_mk4 {f : Nat} {l : List UInt8} {x q : Nat} {os : List (List UInt8)} (hm : hmaj l = 4) (hx : harg l = x) (hq : hl l = q) (h : SeqEnc (Enc f) (itemLen f) x (l.drop q) os) : Enc (f + 1) l (ehead 4 x ++ os.flatten) := by
  rw [Enc, hm, hx, hq, if_neg (by omega), if_pos rfl]
  exact ⟨os, h, rfl⟩
theorem Enc_mk5 {f : Nat} {l : List UInt8} {x q : Nat} {ps qs : List (List UInt8 × List UInt8)} (hm : hmaj l = 5) (hx : harg l = x) (hq : hl l = q) (hl : ps.length = x) (h : SeqEnc (Enc f) (itemLen f) (2 * x) (l.drop q) (flat ps)) (hp : qs.Perm ps) (ha : Asc qs) :
    Enc (f + 1) l (ehead 5 x ++ (flat qs).flatten) := by
  rw [Enc, hm, hx, hq, if_neg (by omega), if_neg (by omega), if_pos rfl]
  exact ⟨ps, qs, hl, h, hp, ha, rfl⟩
theorem Enc_mk6 {f : Nat} {l : List UInt8} {x q : Nat} {o : List UInt8} (hm : hmaj l = 6) (hx : harg l = x) (hq : hl l = q) (h : Enc f (l.drop q) o) : Enc (f + 1) l (ehead 6 x ++ o) := by
  rw [Enc, hm, hx, hq, if_neg (by omega), if_neg (by omega), if_neg (by omega), if_pos rfl]
  exact ⟨o, h, rfl⟩
theorem Enc_mk7 {f : Nat} {l : List UInt8} {q : Nat} (hm : hmaj l = 7) (hq : hl l = q) : Enc (f + 1) l (l.take q) := by
  rw [Enc, hm, hq, if_neg (by omega), if_neg (by omega), if_neg (by omega), if_neg (by omega), if_pos rfl]

end Go.Proofs.Qxb6604654a

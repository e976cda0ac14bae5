/- The plain law: the or of the lengths' bits has q's bit exactly when some length is q's equal or both are at least 63. -/
import Derived.Test.Qxb6612828aBits
namespace Go.Proofs.Qxb6612828a.Mask
open Go.RowKit
def sh (l : Int) : Nat := (min l 63).toNat
def mskN (zs : List Int) : Nat := zs.foldl (fun m l => m ||| 2 ^ sh l) 0
def wnt (q : Int) (zs : List Int) : Bool := zs.any fun l => l == q || (decide (63 ≤ l) && decide (63 ≤ q))

theorem sh_le (l : Int) : sh l ≤ 63 := by unfold sh; omega
theorem lbit_sh (l : Int) : lbit l = ((2 ^ sh l : Nat) : Int) := by unfold lbit sh; simp
theorem msk_snoc (zs : List Int) (l : Int) : mskN (zs ++ [l]) = mskN zs ||| 2 ^ sh l := by simp [mskN]
theorem wnt_snoc (q : Int) (zs : List Int) (l : Int) : wnt q (zs ++ [l]) = (wnt q zs || (l == q || (decide (63 ≤ l) && decide (63 ≤ q)))) := by simp [wnt]

theorem fold_bit (zs : List Int) (m k : Nat) : (zs.foldl (fun m l => m ||| 2 ^ sh l) m).testBit k = (m.testBit k || zs.any fun l => decide (sh l = k)) := by
  induction zs generalizing m with
  | nil => simp
  | cons a t ih => simp [ih, Nat.testBit_or, Nat.testBit_two_pow, Bool.or_assoc]
theorem fold_lt (zs : List Int) (m : Nat) (h : m < 2 ^ 64) : zs.foldl (fun m l => m ||| 2 ^ sh l) m < 2 ^ 64 := by
  induction zs generalizing m with
  | nil => simpa using h
  | cons a t ih =>
    simp only [List.foldl_cons]
    refine ih _ (Nat.or_lt_two_pow h ?_)
    exact Nat.pow_lt_pow_right (by omega) (by have := sh_le a; omega)
theorem msk_lt (zs : List Int) : mskN zs < 18446744073709551616 := fold_lt zs 0 (by omega)
theorem pow_lt (l : Int) : 2 ^ sh l < 18446744073709551616 := by
  have : (2 : Nat) ^ sh l < 2 ^ 64 := Nat.pow_lt_pow_right (by omega) (by have := sh_le l; omega)
  omega
theorem or_step (zs : List Int) (l : Int) : bits .or .u64 (mskN zs : Int) (lbit l) = ((mskN (zs ++ [l]) : Nat) : Int) := by
  rw [lbit_sh, u64_or_nat _ _ (msk_lt zs) (pow_lt l), msk_snoc]
theorem and_ne (a k : Nat) : (a &&& 2 ^ k != 0) = a.testBit k := by
  rw [Bool.eq_iff_iff, bne_iff_ne]
  constructor
  · intro h
    obtain ⟨i, hi⟩ := Nat.exists_testBit_of_ne_zero h
    rw [Nat.testBit_and, Nat.testBit_two_pow] at hi
    simp only [Bool.and_eq_true, decide_eq_true_eq] at hi
    rw [hi.2]
    exact hi.1
  · intro h h0
    have : (a &&& 2 ^ k).testBit k = true := by simp [Nat.testBit_and, h]
    rw [h0] at this
    simp at this

theorem law (zs : List Int) (q : Int) (hz : ∀ z ∈ zs, 0 ≤ z) (hq : 0 ≤ q) : (bits .and .u64 (mskN zs : Int) (lbit q) != 0) = wnt q zs := by
  have e : (bits .and .u64 (mskN zs : Int) (lbit q) != 0) = (mskN zs &&& 2 ^ sh q != 0) := by
    rw [lbit_sh, u64_and_nat _ _ (msk_lt zs) (pow_lt q), Bool.eq_iff_iff, bne_iff_ne, bne_iff_ne]
    omega
  rw [e, and_ne]
  unfold mskN
  rw [fold_bit]
  simp only [Nat.zero_testBit, Bool.false_or]
  unfold wnt
  rw [Bool.eq_iff_iff, List.any_eq_true, List.any_eq_true]
  constructor
  · rintro ⟨x, hx, h⟩
    refine ⟨x, hx, ?_⟩
    have := hz x hx
    have h' : sh x = sh q := of_decide_eq_true h
    unfold sh at h'
    simp only [Bool.or_eq_true, beq_iff_eq, Bool.and_eq_true, decide_eq_true_eq]
    omega
  · rintro ⟨x, hx, h⟩
    refine ⟨x, hx, decide_eq_true ?_⟩
    have := hz x hx
    simp only [Bool.or_eq_true, beq_iff_eq, Bool.and_eq_true, decide_eq_true_eq] at h
    unfold sh
    omega
end Go.Proofs.Qxb6612828a.Mask

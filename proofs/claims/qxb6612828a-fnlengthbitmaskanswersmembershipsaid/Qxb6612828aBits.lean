/- The bit of a length: the plain function 'lbit', its laws, and the contracts of 'mapping.lengthBit' (function 13) and 'mapping.ZZLengthBit' (function 6). -/
import Derived.Test.Qxb6612828aRows
import Derived.WalkKit
import Derived.ProofKit
import Derived.OpenShut
import Derived.ShutString
import Derived.WalkLawsBesides
namespace Go.Proofs.Qxb6612828a
open Go.ChangeShapes Go.WideShapes Go.ChangeAt Go.RowKit

def lbit (n : Int) : Int := 2 ^ (min n 63).toNat

theorem pow_bd (k : Nat) (h : k ≤ 63) : (1 : Int) ≤ 2 ^ k ∧ (2 : Int) ^ k ≤ 9223372036854775808 := by
  have h1 : (2 : Nat) ^ k ≤ 2 ^ 63 := Nat.pow_le_pow_right (by omega) h
  have h2 : 0 < (2 : Nat) ^ k := Nat.pow_pos (by omega)
  have e : ((2 : Int) ^ k) = ((2 ^ k : Nat) : Int) := by simp
  rw [e]
  omega

theorem lbit_bd (n : Int) : 1 ≤ lbit n ∧ lbit n ≤ 9223372036854775808 := by
  unfold lbit
  exact pow_bd _ (by omega)

theorem ret_int {k : IntKind} {a b : Int} (h : a = b) : Ending.returned (.int k a) = .returned (.int k b) := by rw [h]

theorem wrap_low (n : Int) (h : n ≤ 63) : IntKind.u64.wrap (2 ^ n.toNat) = lbit n := by
  have b := pow_bd n.toNat (by omega)
  rw [IntKind.wrap_u64, lbit, show min n 63 = n from by omega]
  omega
theorem wrap_high (n : Int) (h : 63 < n) : IntKind.u64.wrap 9223372036854775808 = lbit n := by
  rw [IntKind.wrap_u64, lbit, show min n 63 = 63 from by omega]
  decide +kernel

theorem lbit_and (n : Int) : bits .and .u64 (lbit n) (lbit n - 1) = 0 := by
  have hk : (min n 63).toNat ≤ 63 := by omega
  unfold lbit
  generalize (min n 63).toNat = k at hk
  have h1 : (2 : Nat) ^ k ≤ 2 ^ 63 := Nat.pow_le_pow_right (by omega) hk
  have h2 : 0 < (2 : Nat) ^ k := Nat.pow_pos (by omega)
  have e1 : ((2 : Int) ^ k) = ((2 ^ k : Nat) : Int) := by simp
  have e2 : ((2 ^ k : Nat) : Int) - 1 = ((2 ^ k - 1 : Nat) : Int) := by omega
  rw [e1, e2, u64_and_nat _ _ (by omega) (by omega), Nat.and_two_pow_sub_one_eq_mod, Nat.mod_self]
  rfl

theorem lbit_lt (n m : Int) (h0 : 0 ≤ n) (h : n < m) (h1 : n < 63) : lbit n < lbit m := by
  unfold lbit
  have h2 : (min n 63).toNat < (min m 63).toNat := by omega
  have h3 : (2 : Nat) ^ (min n 63).toNat < 2 ^ (min m 63).toNat := Nat.pow_lt_pow_right (by omega) h2
  have e : ∀ k : Nat, ((2 : Int) ^ k) = ((2 ^ k : Nat) : Int) := by intro k; simp
  rw [e, e]
  omega

theorem lbit_top (n m : Int) (h : 63 ≤ n) (h1 : 63 ≤ m) : lbit n = lbit m := by
  unfold lbit
  rw [show min n 63 = 63 from by omega, show min m 63 = 63 from by omega]

set_option maxHeartbeats 400000 in
theorem lb (n : Int) (w : World) (h : 0 ≤ n) :
    Calls Try.prog 13 #[.int .i64 n] w fun e w' => e = .returned (.int .u64 (lbit n)) ∧ w' = w := by
  by_cases h63 : 63 < n
  · go_enter Try.func13, Try.ntmps13
    go_wp2
    go_ret
    exact ⟨ret_int (wrap_high n h63), rfl⟩
  · go_enter Try.func13, Try.ntmps13
    go_wp2
    go_ret
    exact ⟨ret_int (wrap_low n (by omega)), rfl⟩
set_option maxHeartbeats 400000 in
theorem zlb (n : Int) (w : World) (h : 0 ≤ n) :
    Calls Try.prog 6 #[.int .i64 n] w fun e w' => e = .returned (.int .u64 (lbit n)) ∧ w' = w := by
  go_enter Try.func6, Try.ntmps6
  go_wp2_with (go_at_call 13; refine (lb _ _ h).mono ?_; rintro e w' ⟨rfl, rfl⟩)
  go_ret
  exact ⟨rfl, rfl⟩
end Go.Proofs.Qxb6612828a

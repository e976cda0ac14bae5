/- The instants of the laws, as inequalities between whole numbers: no Go in sight. -/
import Derived.Test.Qxb6613046aInts
namespace Go.Proofs.Qxb6613046a.Fl
open Ieee

/-- The unit 2^-60. -/
def u : Int := ((2 ^ 1014 : Nat) : Int)
set_option exponentiation.threshold 3000 in
theorem U_eq : U = 1152921504606846976 * u := by
  have e : (2 : Nat) ^ 1074 = 2 ^ 60 * 2 ^ 1014 := by rw [← Nat.pow_add]
  have e2 : (2 : Nat) ^ 60 = 1152921504606846976 := by decide
  rw [e2] at e
  unfold U u
  rw [e, Int.natCast_mul]
  rfl

set_option exponentiation.threshold 3000 in
/-- A constant of the program's text, read. -/
theorem num_lit {b : Nat} (m k c : Nat) (h : double.read b = .number false m (-(k : Int))) (hk : k ≤ 60) (hc : m * 2 ^ (60 - k) = c) : Num b ((c : Int) * u) := by
  refine ⟨false, m, _, h, by omega, ?_⟩
  have e : (-(k : Int) + 1074).toNat = (60 - k) + 1014 := by omega
  rw [e, Nat.pow_add, ← Nat.mul_assoc, hc, Int.natCast_mul]
  have e3 : sg false = 1 := rfl
  rw [e3, Int.one_mul]
  rfl

theorem rd15 : double.read 4624633867356078080 = .number false 8444249301319680 (-((49 : Nat) : Int)) := by decide +kernel
theorem rd360 : double.read 4645040803167600640 = .number false 6333186975989760 (-((44 : Nat) : Int)) := by decide +kernel
theorem rdC : double.read 4643641634335149638 = .number false 4934018143538758 (-((44 : Nat) : Int)) := by decide +kernel
theorem rdI : double.read 4624756829455712525 = .number false 8567211400954125 (-((49 : Nat) : Int)) := by decide +kernel
theorem rdJ : double.read 4702519064147263488 = .number false 5264652799836160 (-((31 : Nat) : Int)) := by decide +kernel
theorem rdH : double.read 4602678819172646912 = .number false 4503599627370496 (-((53 : Nat) : Int)) := by decide +kernel
theorem rdK : double.read 4645133024742326474 = .number false 6425408550715594 (-((44 : Nat) : Int)) := by decide +kernel
theorem num15 : Num 4624633867356078080 (17293822569102704640 * u) := num_lit 8444249301319680 49 17293822569102704640 rd15 (by omega) (by decide)
theorem num360 : Num 4645040803167600640 (415051741658464911360 * u) := num_lit 6333186975989760 44 415051741658464911360 rd360 (by omega) (by decide)
theorem numC : Num 4643641634335149638 (323355813054956044288 * u) := num_lit 4934018143538758 44 323355813054956044288 rdC (by omega) (by decide)
theorem numI : Num 4624756829455712525 (17545648949154048000 * u) := num_lit 8567211400954125 49 17545648949154048000 rdI (by omega) (by decide)
theorem numJ : Num 4702519064147263488 (2826438950011392669777920 * u) := num_lit 5264652799836160 31 2826438950011392669777920 rdJ (by omega) (by decide)
theorem numH : Num 4602678819172646912 (576460752303423488 * u) := num_lit 4503599627370496 53 576460752303423488 rdH (by omega) (by decide)

theorem p44 : ((2 ^ 44 : Nat) : Int) = 17592186044416 := by decide
theorem p49 : ((2 ^ 49 : Nat) : Int) = 562949953421312 := by decide
theorem p23 : ((2 ^ 23 : Nat) : Int) = 8388608 := by decide
theorem p24 : ((2 ^ 24 : Nat) : Int) = 16777216 := by decide
theorem p27 : ((2 ^ 27 : Nat) : Int) = 134217728 := by decide
theorem p16 : ((2 ^ 16 : Nat) : Int) = 65536 := by decide
theorem q30 : ((2 ^ (53 - 23) : Nat) : Int) = 1073741824 := by decide
theorem q29 : ((2 ^ (53 - 24) : Nat) : Int) = 536870912 := by decide
theorem q26 : ((2 ^ (53 - 27) : Nat) : Int) = 67108864 := by decide
theorem r29 : ((2 ^ (52 - 23) : Nat) : Int) = 536870912 := by decide
theorem r36 : ((2 ^ (52 - 16) : Nat) : Int) = 68719476736 := by decide

/-- The words that meanTermInstant(n) makes, one behind the other. -/
def Mean (n : Int) (r9 : Nat) : Prop :=
  ∃ r4 r5 r6 r7 r8, double.mul 4624633867356078080 (floatOfInt .f64 n) = some r4 ∧ double.add r4 4645040803167600640 = some r5 ∧ double.sub r5 4643641634335149638 = some r6 ∧
    double.mul r6 4624756829455712525 = some r7 ∧ double.div r7 4624633867356078080 = some r8 ∧ double.add 4702519064147263488 r8 = some r9

theorem a6 (u nU V4 V5 V6 : Int) (l4 : -(1 * (1152921504606846976 * u)) ≤ 1073741824 * (1 * V4 - 15 * nU)) (u4 : 1073741824 * (1 * V4 - 15 * nU) ≤ 1 * (1152921504606846976 * u))
    (l5 : -(1152921504606846976 * u) ≤ 1073741824 * (V5 - (V4 + 415051741658464911360 * u))) (u5 : 1073741824 * (V5 - (V4 + 415051741658464911360 * u)) ≤ 1152921504606846976 * u)
    (l6 : -(1152921504606846976 * u) ≤ 1073741824 * (V6 - (V5 - 323355813054956044288 * u))) (u6 : 1073741824 * (V6 - (V5 - 323355813054956044288 * u)) ≤ 1152921504606846976 * u) :
    -(3221225472 * u) ≤ V6 - (15 * nU + 91695928603508867072 * u) ∧ V6 - (15 * nU + 91695928603508867072 * u) ≤ 3221225472 * u := by omega

theorem mean_law (n : Int) (h1 : -393300 ≤ n) (h2 : n ≤ 393300) : ∃ r9 V9, Mean n r9 ∧ Num r9 V9 ∧
    -(2213609288845146193920 * U) ≤ 148552804714245632987894906880 * V9 - (364195872608358544219546904599412850 * U + 2260739652711402090780426240000 * (n * U)) ∧ 148552804714245632987894906880 * V9 - (364195872608358544219546904599412850 * U + 2260739652711402090780426240000 * (n * U)) ≤ 2213609288845146193920 * U := by
  have hU := U_pos
  have x3 := of_int n (by omega) (by omega)
  have b1 : -393300 * U ≤ n * U := Int.mul_le_mul_of_nonneg_right h1 (Int.le_of_lt hU)
  have b2 : n * U ≤ 393300 * U := Int.mul_le_mul_of_nonneg_right h2 (Int.le_of_lt hU)
  clear h1 h2
  generalize n * U = nU at x3 b1 b2 ⊢
  have hUu := U_eq
  obtain ⟨r4, V4, c4, n4, l4, u4⟩ := (mul_const x3 num15 15 1 (by omega) (by omega) 23 (by omega) (by rw [p23]; omega) (by rw [p23]; omega)).2
  rw [q30] at l4 u4
  obtain ⟨r5, V5, c5, n5, l5, u5⟩ := add_law n4 num360 23 (by omega) (by rw [p23]; omega) (by rw [p23]; omega)
  rw [q30] at l5 u5
  obtain ⟨r6, V6, c6, n6, l6, u6⟩ := sub_law n5 numC 23 (by omega) (by rw [p23]; omega) (by rw [p23]; omega)
  rw [q30] at l6 u6
  rw [hUu] at l4 u4 l5 u5 l6 u6
  have w6 := a6 u nU V4 V5 V6 l4 u4 l5 u5 l6 u6
  clear l4 u4 l5 u5 l6 u6
  obtain ⟨r7, V7, c7, n7, l7, u7⟩ := (mul_const n6 numI 8567211400954125 562949953421312 (by omega) (by omega) 27 (by omega) (by rw [p27]; omega) (by rw [p27]; omega)).1
  rw [q26] at l7 u7
  obtain ⟨r8, V8, c8, n8, l8, u8⟩ := div_const n7 _ _ rd15 (by omega) 23 (by omega) (by rw [p23, p49]; omega) (by rw [p23, p49]; omega)
  rw [r29, p49] at l8 u8
  obtain ⟨r9, V9, c9, n9, l9, u9⟩ := add_law numJ n8 24 (by omega) (by rw [p24]; omega) (by rw [p24]; omega)
  rw [q29] at l9 u9
  refine ⟨r9, V9, ⟨r4, r5, r6, r7, r8, c4, c5, c6, c7, c8, c9⟩, n9, ?_, ?_⟩
  · omega
  · omega
end Go.Proofs.Qxb6613046a.Fl

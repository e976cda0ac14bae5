/- The day of an instant and the solstice that a day names, as inequalities between whole numbers: no Go in sight. -/
import Derived.Test.Qxb6613046aMean
namespace Go.Proofs.Qxb6613046a.Fl
open Ieee

/-- The words on the way to the day on which mean term n falls. -/
def Day (n : Int) (r10 : Nat) : Prop := ∃ r9, Mean n r9 ∧ double.add r9 4602678819172646912 = some r10

theorem day_law (n : Int) (h1 : -393300 ≤ n) (h2 : n ≤ 393300) : ∃ r10 V10, Day n r10 ∧ Num r10 V10 ∧ -(1073741824 * U) ≤ V10 ∧ V10 ≤ 1073741824 * U ∧
    ∀ d : Int, d * U ≤ V10 → V10 < d * U + U → 148552804714245632987894906880 * d ≤ 364195946884765328560941088839254130 + 2260739652711402090780426240000 * n ∧ 364195946884756474123785708254478450 + 2260739652711402090780426240000 * n < 148552804714245632987894906880 * d + 148552804714245632987894906880 := by
  obtain ⟨r9, V9, hm, n9, l9, u9⟩ := mean_law n h1 h2
  have hU := U_pos
  have b1 : -393300 * U ≤ n * U := Int.mul_le_mul_of_nonneg_right h1 (Int.le_of_lt hU)
  have b2 : n * U ≤ 393300 * U := Int.mul_le_mul_of_nonneg_right h2 (Int.le_of_lt hU)
  have hUu := U_eq
  have e1 : ∀ K : Int, (K + 2260739652711402090780426240000 * n) * U = K * U + 2260739652711402090780426240000 * (n * U) := fun K => by rw [Int.add_mul, Int.mul_assoc]
  have e2 : ∀ d : Int, (148552804714245632987894906880 * d) * U = 148552804714245632987894906880 * (d * U) := fun d => Int.mul_assoc _ _ _
  have e3 : ∀ d : Int, (148552804714245632987894906880 * d + 148552804714245632987894906880) * U = 148552804714245632987894906880 * (d * U) + 148552804714245632987894906880 * U := fun d => by rw [Int.add_mul, Int.mul_assoc]
  clear h1 h2
  obtain ⟨r10, V10, c10, n10, l10, u10⟩ := add_law n9 numH 24 (by omega) (by rw [p24]; generalize n * U = nU at *; omega) (by rw [p24]; generalize n * U = nU at *; omega)
  rw [q29] at l10 u10
  refine ⟨r10, V10, ⟨r9, hm, c10⟩, n10, ?_, ?_, ?_⟩
  · generalize n * U = nU at *
    clear e1 e2 e3
    omega
  · generalize n * U = nU at *
    clear e1 e2 e3
    omega
  · intro d k1 k2
    constructor
    · refine Int.le_of_mul_le_mul_right ?_ hU
      rw [e1, e2]
      generalize n * U = nU at *
      generalize d * U = dU at *
      clear e1 e2 e3
      omega
    · refine Int.lt_of_mul_lt_mul_right ?_ (Int.le_of_lt hU)
      rw [e1, e3]
      generalize n * U = nU at *
      generalize d * U = dU at *
      clear e1 e2 e3
      omega

/-- The words on the way to the solstice that day d names. -/
def Last (d f : Int) : Prop :=
  ∃ y2 m0 y3 q, double.add (floatOfInt .f64 d) 4602678819172646912 = some y2 ∧ Mean 18 m0 ∧ double.sub y2 m0 = some y3 ∧ double.div y3 4645133024742326474 = some q ∧
    (∃ s m p, double.read q = .number s m p) ∧ floatToIntVal .f64 (double.write ((double.read q).integral .down)) .i64 = some f

theorem last_law (d : Int) (h1 : -8600000 ≤ d) (h2 : d ≤ 8600000) : ∃ f, Last d f ∧ -1073741825 ≤ f ∧ f ≤ 1073741825 ∧
    954512461643697692737267870660545491993886720 * f ≤ 2613368577952807399398716985075979863982080 * d + -6407716125196460570304590637324247562731577671680 ∧ 2613368577952807399398716985075979863982080 * d + (-6407716125196772108116102726981959392511330877440) < 954512461643697692737267870660545491993886720 * f + 954512461643697692737267870660545491993886720 := by
  have hU := U_pos
  have hUu := U_eq
  have y1 := of_int d (by omega) (by omega)
  have b1 : -8600000 * U ≤ d * U := Int.mul_le_mul_of_nonneg_right h1 (Int.le_of_lt hU)
  have b2 : d * U ≤ 8600000 * U := Int.mul_le_mul_of_nonneg_right h2 (Int.le_of_lt hU)
  obtain ⟨m0, V0, hm, n0, l0, u0⟩ := mean_law 18 (by omega) (by omega)
  have e1 : ∀ K : Int, (2613368577952807399398716985075979863982080 * d + K) * U = 2613368577952807399398716985075979863982080 * (d * U) + K * U := fun K => by rw [Int.add_mul, Int.mul_assoc]
  have e2 : ∀ f : Int, (954512461643697692737267870660545491993886720 * f) * U = 954512461643697692737267870660545491993886720 * (f * U) := fun f => Int.mul_assoc _ _ _
  have e3 : ∀ f : Int, (954512461643697692737267870660545491993886720 * f + 954512461643697692737267870660545491993886720) * U = 954512461643697692737267870660545491993886720 * (f * U) + 954512461643697692737267870660545491993886720 * U := fun f => by rw [Int.add_mul, Int.mul_assoc]
  clear h1 h2
  generalize d * U = dU at *
  obtain ⟨y2, V2, c2, n2, l2, u2⟩ := add_law y1 numH 24 (by omega) (by rw [p24]; omega) (by rw [p24]; omega)
  rw [q29] at l2 u2
  obtain ⟨y3, V3, c3, n3, l3, u3⟩ := sub_law n2 n0 24 (by omega) (by rw [p24]; omega) (by rw [p24]; omega)
  rw [q29] at l3 u3
  have w3 : -(4427218577690292387840 * U) ≤ 148552804714245632987894906880 * V3 - (148552804714245632987894906880 * dU + -364236491645704992334364458324279410 * U) ∧ 148552804714245632987894906880 * V3 - (148552804714245632987894906880 * dU + -364236491645704992334364458324279410 * U) ≤ 4427218577690292387840 * U := by omega
  clear l0 u0 l2 u2 l3 u3
  obtain ⟨q, Vq, cq, nq, lq, uq⟩ := div_const n3 _ _ rdK (by omega) 16 (by omega) (by rw [p16, p44]; omega) (by rw [p16, p44]; omega)
  rw [r36, p44] at lq uq
  have hq1 : -(1073741824 * U) ≤ Vq := by omega
  have hq2 : Vq ≤ 1073741824 * U := by omega
  obtain ⟨f, hread, ng, k1, k2, f1, f2⟩ := floor_law nq hq1 hq2
  have hfb1 : -(1073741824 * U) ≤ f * U := by
    generalize f * U = fU at *
    omega
  have hfb2 : f * U ≤ 1073741824 * U := by
    generalize f * U = fU at *
    omega
  obtain ⟨t, ht, hcut, _, _⟩ := to_int ng hfb1 hfb2
  have htf : t = f := by
    by_cases hlt : t < f
    · have hx : (t + 1) * U ≤ f * U := Int.mul_le_mul_of_nonneg_right (by omega) (Int.le_of_lt hU)
      rw [Int.add_mul, Int.one_mul] at hx
      by_cases h0 : 0 ≤ f * U
      · have := (hcut.1 h0).2.1; omega
      · have := (hcut.2 (by omega)).2.1; omega
    · by_cases hgt : f < t
      · have hx : (f + 1) * U ≤ t * U := Int.mul_le_mul_of_nonneg_right (by omega) (Int.le_of_lt hU)
        rw [Int.add_mul, Int.one_mul] at hx
        by_cases h0 : 0 ≤ f * U
        · have := (hcut.1 h0).1; omega
        · have := (hcut.2 (by omega)).1; omega
      · omega
  subst htf
  refine ⟨t, ⟨y2, m0, y3, q, c2, hm, c3, cq, hread, ht⟩, f1, f2, ?_, ?_⟩
  · refine Int.le_of_mul_le_mul_right ?_ hU
    rw [e1, e2]
    generalize t * U = fU at *
    clear e1 e2 e3 hcut hfb1 hfb2 hq1 hq2
    omega
  · refine Int.lt_of_mul_lt_mul_right ?_ (Int.le_of_lt hU)
    rw [e1, e3]
    generalize t * U = fU at *
    clear e1 e2 e3 hcut hfb1 hfb2 hq1 hq2
    omega
end Go.Proofs.Qxb6613046a.Fl

/- float64(n), int(x), math.Floor(x) and x > y on finite floats of 64 bits: no Go in sight. -/
import Derived.Test.Qxb6613046aOps
namespace Go.Proofs.Qxb6613046a.Fl
open Ieee

theorem log2_le (k : Nat) (h0 : 0 < k) (hk : k < 9007199254740992) : k.log2 ≤ 52 := by
  have h1 : 2 ^ k.log2 ≤ k := Nat.log2_self_le (by omega)
  have h2 : (9007199254740992 : Nat) = 2 ^ 53 := by decide
  rw [h2] at hk
  have := (Nat.pow_lt_pow_iff_right (by omega : 1 < 2)).1 (Nat.lt_of_le_of_lt h1 hk)
  omega

set_option exponentiation.threshold 3000 in
/-- A whole number below 2^53 is a float. -/
theorem exact_nearest (neg : Bool) (k : Nat) (hk : k < 9007199254740992) : Num (double.nearest neg k 0) (sg neg * ((k : Int) * U)) := by
  by_cases h0 : k = 0
  · subst h0
    simpa using num_zero neg 0
  have h := near_law neg k 0 (by omega) (by have := log2_le k (by omega) hk; omega)
  have hl : lastOf k 0 ≤ 0 := by have := log2_le k (by omega) hk; unfold lastOf; omega
  have hl2 : -1074 ≤ lastOf k 0 := by unfold lastOf; omega
  have e : keptOf neg k 0 * 2 ^ (lastOf k 0 + 1074).toNat = k * 2 ^ 1074 := by
    unfold keptOf
    have hd : (lastOf k 0 - 0).toNat = 0 := by omega
    rw [hd, cut_zero, Nat.shiftLeft_eq, Nat.mul_assoc, ← Nat.pow_add]
    have : (0 - lastOf k 0).toNat + (lastOf k 0 + 1074).toNat = 1074 := by omega
    rw [this]
  rw [e, Int.natCast_mul] at h
  exact h

theorem of_int (t : Int) (h1 : -9007199254740992 < t) (h2 : t < 9007199254740992) : Num (floatOfInt .f64 t) (t * U) := by
  have h := exact_nearest (decide (t < 0)) t.natAbs (by omega)
  have e : sg (decide (t < 0)) * ((t.natAbs : Int) * U) = t * U := by
    rw [← Int.mul_assoc]
    congr 1
    by_cases h2 : t < 0
    · simp only [h2, decide_true, sg, if_true]; omega
    · simp only [h2, decide_false, sg, if_false, Bool.false_eq_true]; omega
  rw [e] at h
  exact h

theorem gap_div (n drop : Nat) : n / 2 ^ min drop (n.log2 + 2) = n / 2 ^ drop ∧ n % 2 ^ min drop (n.log2 + 2) = n % 2 ^ drop := by
  by_cases h : drop ≤ n.log2 + 2
  · rw [Nat.min_eq_left h]; exact ⟨rfl, rfl⟩
  · have h' : n.log2 + 2 ≤ drop := by omega
    rw [Nat.min_eq_right h']
    have hle : 2 ^ (n.log2 + 2) ≤ 2 ^ drop := Nat.pow_le_pow_right (by omega) h'
    have hlt : n < 2 ^ (n.log2 + 1) := Nat.lt_log2_self
    have h2 : 2 ^ (n.log2 + 2) = 2 * 2 ^ (n.log2 + 1) := by rw [Nat.pow_succ]; omega
    have hn : n < 2 ^ (n.log2 + 2) := by omega
    rw [Nat.div_eq_of_lt hn, Nat.div_eq_of_lt (Nat.lt_of_lt_of_le hn hle), Nat.mod_eq_of_lt hn, Nat.mod_eq_of_lt (Nat.lt_of_lt_of_le hn hle)]
    exact ⟨rfl, rfl⟩

theorem cut_way (way : Toward) (s : Bool) (n drop : Nat) (hw : way = .zero ∨ way = .down) :
    way.cut s n drop = n / 2 ^ drop + (match way with | .down => s && n % 2 ^ drop != 0 | _ => false).toNat := by
  have hg := gap_div n drop
  unfold Toward.cut
  simp only [Nat.one_shiftLeft, hg.1, hg.2]
  rcases hw with rfl | rfl <;> rfl

set_option exponentiation.threshold 3000 in
/-- m * 2^p, cut at the point, is the value in units divided by 2^1074. -/
theorem whole_part (m : Nat) (p : Int) (hp : -1074 ≤ p) :
    (m <<< p.toNat) / 2 ^ (-p).toNat = (m * 2 ^ (p + 1074).toNat) / 2 ^ 1074 ∧ ((m <<< p.toNat) % 2 ^ (-p).toNat = 0 ↔ (m * 2 ^ (p + 1074).toNat) % 2 ^ 1074 = 0) := by
  rw [Nat.shiftLeft_eq]
  by_cases h : 0 ≤ p
  · have e1 : (-p).toNat = 0 := by omega
    have e2 : (p + 1074).toNat = p.toNat + 1074 := by omega
    rw [e1, e2, Nat.pow_zero, Nat.div_one, Nat.mod_one, Nat.pow_add, ← Nat.mul_assoc, Nat.mul_div_cancel _ (Nat.two_pow_pos _), Nat.mul_mod_left]
    simp
  · have e1 : p.toNat = 0 := by omega
    have e2 : 1074 = (-p).toNat + (p + 1074).toNat := by omega
    have e3 : (2 : Nat) ^ 1074 = 2 ^ (-p).toNat * 2 ^ (p + 1074).toNat := by rw [← Nat.pow_add, ← e2]
    rw [e1, Nat.pow_zero, Nat.mul_one, e3, Nat.mul_div_mul_right _ _ (Nat.two_pow_pos _), Nat.mul_mod_mul_right]
    refine ⟨rfl, ?_⟩
    rw [Nat.mul_eq_zero]
    have := Nat.two_pow_pos (p + 1074).toNat
    constructor
    · intro h; exact .inl h
    · rintro (h | h)
      · exact h
      · omega

/-- int(x): cut towards nought. -/
def Cut (t V : Int) : Prop := (0 ≤ V → t * U ≤ V ∧ V < t * U + U ∧ 0 ≤ t) ∧ (V ≤ 0 → t * U - U < V ∧ V ≤ t * U ∧ t ≤ 0)

theorem to_int {b : Nat} {V : Int} (h : Num b V) (h1 : -(1073741824 * U) ≤ V) (h2 : V ≤ 1073741824 * U) : ∃ t, floatToIntVal .f64 b .i64 = some t ∧ Cut t V ∧ -1073741824 ≤ t ∧ t ≤ 1073741824 := by
  obtain ⟨s, m, p, hr, hp, hV⟩ := h
  have hw := whole_part m p hp
  have hc := cut_way .zero s (m <<< p.toNat) (-p).toNat (.inl rfl)
  have hc' : Toward.zero.cut s (m <<< p.toNat) (-p).toNat = (m * 2 ^ (p + 1074).toNat) / 2 ^ 1074 := by
    rw [hc, hw.1]; rfl
  have hdm := Nat.div_add_mod (m * 2 ^ (p + 1074).toNat) (2 ^ 1074)
  have hml := Nat.mod_lt (m * 2 ^ (p + 1074).toNat) (Nat.two_pow_pos 1074)
  have hto : (double.read b).toInt .zero = some (sg s * ((m * 2 ^ (p + 1074).toNat / 2 ^ 1074 : Nat) : Int)) := by
    rw [hr]
    simp only [Datum.toInt, Datum.integral, hc', signed_eq, Nat.pow_zero, Nat.mul_one]
  clear hw hc hc' hr
  have hU := U_pos
  generalize m * 2 ^ (p + 1074).toNat = A at hdm hml hto hV
  have hdm' : ((A / 2 ^ 1074 : Nat) : Int) * U + ((A % 2 ^ 1074 : Nat) : Int) = (A : Int) := by
    unfold U
    rw [← Int.natCast_mul, ← Int.natCast_add, Nat.mul_comm, hdm]
  have hml' : ((A % 2 ^ 1074 : Nat) : Int) < U := by unfold U; exact Int.ofNat_lt.2 hml
  have hm0 : (0 : Int) ≤ ((A % 2 ^ 1074 : Nat) : Int) := Int.natCast_nonneg _
  clear hdm hml
  obtain ⟨Q, hQ⟩ : ∃ Q, A / 2 ^ 1074 = Q := ⟨_, rfl⟩
  rw [hQ] at hto hdm'
  generalize ((A % 2 ^ 1074 : Nat) : Int) = R at hdm' hml' hm0
  have hQb : (Q : Int) ≤ 1073741824 := by
    by_cases hx : (Q : Int) ≤ 1073741824
    · exact hx
    · exfalso
      have : (1073741825 : Int) * U ≤ (Q : Int) * U := Int.mul_le_mul_of_nonneg_right (by omega) (Int.le_of_lt hU)
      cases s <;> simp only [sg, if_true, if_false, Bool.false_eq_true] at hV <;> omega
  refine ⟨sg s * (Q : Int), ?_, ⟨fun h0 => ?_, fun h0 => ?_⟩, ?_, ?_⟩
  · have : (FloatKind.f64.decode b).toInt .zero = some (sg s * (Q : Int)) := hto
    unfold floatToIntVal
    rw [this]
    have hmin : IntKind.i64.min = -9223372036854775808 := by decide
    have hmax : IntKind.i64.max = 9223372036854775807 := by decide
    simp only [hmin, hmax]
    rw [if_pos]
    cases s <;> simp only [sg, if_true, if_false, Bool.false_eq_true] <;> omega
  · have e : (Q : Int) * U = (A : Int) - R := by omega
    cases s
    · simp only [sg, if_false, Bool.false_eq_true, Int.one_mul] at hV ⊢
      omega
    · simp only [sg, if_true, Int.neg_mul, Int.one_mul] at hV ⊢
      have hA : (A : Int) = 0 := by omega
      have hq : (Q : Int) * U ≤ 0 := by omega
      have hQ0 : (Q : Int) = 0 := by
        by_cases hx : (Q : Int) ≤ 0
        · omega
        · exfalso
          have : (1 : Int) * U ≤ (Q : Int) * U := Int.mul_le_mul_of_nonneg_right (by omega) (Int.le_of_lt hU)
          omega
      rw [hQ0]
      simp
      omega
  · have e : (Q : Int) * U = (A : Int) - R := by omega
    cases s
    · simp only [sg, if_false, Bool.false_eq_true, Int.one_mul] at hV ⊢
      have hA : (A : Int) = 0 := by omega
      have hq : (Q : Int) * U ≤ 0 := by omega
      have hQ0 : (Q : Int) = 0 := by
        by_cases hx : (Q : Int) ≤ 0
        · omega
        · exfalso
          have : (1 : Int) * U ≤ (Q : Int) * U := Int.mul_le_mul_of_nonneg_right (by omega) (Int.le_of_lt hU)
          omega
      rw [hQ0]
      simp
      omega
    · simp only [sg, if_true, Int.neg_mul, Int.one_mul] at hV ⊢
      omega
  · cases s <;> simp only [sg, if_true, if_false, Bool.false_eq_true] <;> omega
  · cases s <;> simp only [sg, if_true, if_false, Bool.false_eq_true] <;> omega

/-- math.Floor. -/
theorem floor_law {b : Nat} {V : Int} (h : Num b V) (h1 : -(1073741824 * U) ≤ V) (h2 : V ≤ 1073741824 * U) :
    ∃ f, (∃ s m p, double.read b = .number s m p) ∧ Num (double.write ((double.read b).integral .down)) (f * U) ∧ f * U ≤ V ∧ V < f * U + U ∧ -1073741825 ≤ f ∧ f ≤ 1073741825 := by
  obtain ⟨s, m, p, hr, hp, hV⟩ := h
  have hw := whole_part m p hp
  have hc := cut_way .down s (m <<< p.toNat) (-p).toNat (.inr rfl)
  have hdm := Nat.div_add_mod (m * 2 ^ (p + 1074).toNat) (2 ^ 1074)
  have hml := Nat.mod_lt (m * 2 ^ (p + 1074).toNat) (Nat.two_pow_pos 1074)
  have hint : double.write ((double.read b).integral .down) = double.nearest s (Toward.down.cut s (m <<< p.toNat) (-p).toNat) 0 := by
    rw [hr]; rfl
  have hU := U_pos
  rw [hint, hr]
  rw [hc, hw.1]
  have hz : ((m <<< p.toNat) % 2 ^ (-p).toNat != 0) = ((m * 2 ^ (p + 1074).toNat) % 2 ^ 1074 != 0) := by
    rw [Bool.eq_iff_iff]
    simp only [bne_iff_ne, ne_eq]
    rw [hw.2]
  simp only [hz]
  clear hw hc hr hint hz
  generalize m * 2 ^ (p + 1074).toNat = A at hdm hml hV ⊢
  have hdm' : ((A / 2 ^ 1074 : Nat) : Int) * U + ((A % 2 ^ 1074 : Nat) : Int) = (A : Int) := by
    unfold U
    rw [← Int.natCast_mul, ← Int.natCast_add, Nat.mul_comm, hdm]
  have hml' : ((A % 2 ^ 1074 : Nat) : Int) < U := by unfold U; exact Int.ofNat_lt.2 hml
  clear hdm hml
  generalize A / 2 ^ 1074 = Q at hdm' ⊢
  generalize A % 2 ^ 1074 = R at hdm' hml' ⊢
  have hQb : (Q : Int) ≤ 1073741824 := by
    by_cases hx : (Q : Int) ≤ 1073741824
    · exact hx
    · exfalso
      have : (1073741825 : Int) * U ≤ (Q : Int) * U := Int.mul_le_mul_of_nonneg_right (by omega) (Int.le_of_lt hU)
      cases s <;> simp only [sg, if_true, if_false, Bool.false_eq_true] at hV <;> omega
  have hex := exact_nearest s (Q + (s && R != 0).toNat) (by cases (s && R != 0) <;> simp <;> omega)
  refine ⟨sg s * ((Q + (s && R != 0).toNat : Nat) : Int), ⟨_, _, _, rfl⟩, ?_, ?_⟩
  · rw [Int.mul_assoc]; exact hex
  · cases s
    · simp only [sg, if_false, Bool.false_eq_true, Int.one_mul, Bool.false_and, Bool.toNat_false, Nat.add_zero] at hV ⊢
      omega
    · by_cases hR : R = 0
      · subst hR
        simp only [sg, if_true, Int.neg_mul, Int.one_mul, Bool.true_and, bne_self_eq_false, Bool.toNat_false, Nat.add_zero] at hV ⊢
        omega
      · have : (R != 0) = true := by simp [hR]
        simp only [sg, if_true, Int.neg_mul, Int.one_mul, Bool.true_and, this, Bool.toNat_true, Int.natCast_add, Int.add_mul, Int.natCast_one] at hV ⊢
        omega

/-- x > y. -/
theorem gt_law {x y : Nat} {a b : Int} (hx : Num x a) (hy : Num y b) : (double.order x y == some .gt) = decide (b < a) := by
  obtain ⟨s, m, i, hr, hi, ha⟩ := hx
  obtain ⟨t, n, j, hr', hj, hb⟩ := hy
  unfold Format.order
  rw [hr, hr']
  simp only [Datum.order]
  have h1 : signed s m (i - min i j).toNat * ((2 ^ (min i j + 1074).toNat : Nat) : Int) = a := by
    rw [signed_eq, Int.mul_assoc, ← Int.natCast_mul, Nat.mul_assoc, ← Nat.pow_add]
    have e1 : (i - min i j).toNat + (min i j + 1074).toNat = (i + 1074).toNat := by omega
    rw [e1, ha]
  have h2 : signed t n (j - min i j).toNat * ((2 ^ (min i j + 1074).toNat : Nat) : Int) = b := by
    rw [signed_eq, Int.mul_assoc, ← Int.natCast_mul, Nat.mul_assoc, ← Nat.pow_add]
    have e1 : (j - min i j).toNat + (min i j + 1074).toNat = (j + 1074).toNat := by omega
    rw [e1, hb]
  have hc : 0 < ((2 ^ (min i j + 1074).toNat : Nat) : Int) := by
    have := Nat.two_pow_pos (min i j + 1074).toNat
    omega
  generalize ((2 ^ (min i j + 1074).toNat : Nat) : Int) = c at h1 h2 hc
  generalize signed s m (i - min i j).toNat = p at h1 ⊢
  generalize signed t n (j - min i j).toNat = q at h2 ⊢
  have hiff : b < a ↔ q < p := by
    rw [← h1, ← h2]
    constructor
    · intro h
      exact Int.lt_of_mul_lt_mul_right h (Int.le_of_lt hc)
    · intro h
      exact Int.mul_lt_mul_of_pos_right h hc
  have hcmp : compare p q = .gt ↔ q < p := by
    simp only [compare, compareOfLessAndEq]
    split
    · simp; omega
    · split
      · simp; omega
      · simp; omega
  rw [Bool.eq_iff_iff]
  simp only [beq_iff_eq, Option.some.injEq, decide_eq_true_eq]
  rw [hcmp, hiff]
end Go.Proofs.Qxb6613046a.Fl

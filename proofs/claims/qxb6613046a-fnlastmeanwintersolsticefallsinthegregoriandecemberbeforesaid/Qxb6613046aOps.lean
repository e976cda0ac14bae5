/- '+', '-', '*', '/' on finite floats of 64 bits, as inequalities between whole numbers; int(x), math.Floor and '<': no Go in sight. -/
import Derived.Test.Qxb6613046aRound
namespace Go.Proofs.Qxb6613046a.Fl
open Ieee

/-- One: 2^1074 units. -/
def U : Int := ((2 ^ 1074 : Nat) : Int)
theorem U_pos : 0 < U := by
  unfold U
  have := Nat.two_pow_pos 1074
  omega

theorem sg_xor (s t : Bool) : sg (s ^^ t) = sg s * sg t := by cases s <;> cases t <;> rfl
theorem sg_not (s : Bool) : sg (!s) = - sg s := by cases s <;> rfl
theorem sg_abs (z : Int) (b : Bool) : sg (if z = 0 then b else decide (z < 0)) * (z.natAbs : Int) = z := by
  by_cases h : z = 0
  · subst h; simp
  · rw [if_neg h]
    by_cases h2 : z < 0
    · simp only [h2, decide_true, sg, if_true]; omega
    · simp only [h2, decide_false, sg, if_false, Bool.false_eq_true]; omega

/-- The sum of two numbers, read at 2^-1074, is the sum. -/
theorem sum_read (s t : Bool) (m n : Nat) (i j : Int) (hi : -1074 ≤ i) (hj : -1074 ≤ j) :
    (signed s m (i - min i j).toNat + signed t n (j - min i j).toNat) * ((2 ^ (min i j + 1074).toNat : Nat) : Int) =
      sg s * ((m * 2 ^ (i + 1074).toNat : Nat) : Int) + sg t * ((n * 2 ^ (j + 1074).toNat : Nat) : Int) := by
  rw [signed_eq, signed_eq, Int.add_mul, Int.mul_assoc, Int.mul_assoc, ← Int.natCast_mul, ← Int.natCast_mul, Nat.mul_assoc, Nat.mul_assoc, ← Nat.pow_add, ← Nat.pow_add]
  have e1 : (i - min i j).toNat + (min i j + 1074).toNat = (i + 1074).toNat := by omega
  have e2 : (j - min i j).toNat + (min i j + 1074).toNat = (j + 1074).toNat := by omega
  rw [e1, e2]

theorem sum_law (s t : Bool) (m n : Nat) (i j : Int) (hi : -1074 ≤ i) (hj : -1074 ≤ j) (a b : Int) (ha : a = sg s * ((m * 2 ^ (i + 1074).toNat : Nat) : Int)) (hb : b = sg t * ((n * 2 ^ (j + 1074).toNat : Nat) : Int))
    (E : Nat) (hE : E ≤ 53) (h1 : -(((2 ^ E : Nat) : Int) * U) ≤ a + b) (h2 : a + b ≤ ((2 ^ E : Nat) : Int) * U) :
    ∃ r V, ((Datum.number s m i).sum (.number t n j)).map double.write = some r ∧ Num r V ∧ -U ≤ ((2 ^ (53 - E) : Nat) : Int) * (V - (a + b)) ∧ ((2 ^ (53 - E) : Nat) : Int) * (V - (a + b)) ≤ U := by
  have hread := sum_read s t m n i j hi hj
  rw [← ha, ← hb] at hread
  obtain ⟨total, ht⟩ : ∃ z, signed s m (i - min i j).toNat + signed t n (j - min i j).toNat = z := ⟨_, rfl⟩
  rw [ht] at hread
  have hX : sg (if total = 0 then s && t else decide (total < 0)) * ((total.natAbs * 2 ^ (min i j + 1074).toNat : Nat) : Int) = a + b := by
    rw [Int.natCast_mul, ← Int.mul_assoc, sg_abs, hread]
  have habs : ((total.natAbs * 2 ^ (min i j + 1074).toNat : Nat) : Int) ≤ ((2 ^ E : Nat) : Int) * U := by
    generalize total.natAbs * 2 ^ (min i j + 1074).toNat = Z at hX ⊢
    generalize ((2 ^ E : Nat) : Int) * U = W at h1 h2 ⊢
    generalize (if total = 0 then s && t else decide (total < 0)) = sn at hX
    cases sn <;> simp only [sg, if_true, if_false, Bool.false_eq_true] at hX <;> omega
  have habs' : total.natAbs * 2 ^ (min i j + ((1074 : Nat) : Int)).toNat ≤ 2 ^ (E + 1074) := by
    rw [Nat.pow_add]
    unfold U at habs
    rw [← Int.natCast_mul] at habs
    exact Int.ofNat_le.1 habs
  obtain ⟨V, hV, l1, l2⟩ := round_law (if total = 0 then s && t else decide (total < 0)) total.natAbs (min i j) 1074 E (Nat.le_refl _) (by omega) hE habs'
  refine ⟨_, V, ?_, hV, ?_, ?_⟩
  · simp only [Datum.sum, ht, Option.map_some]
    rfl
  · have hX' : sg (if total = 0 then s && t else decide (total < 0)) * ((total.natAbs * 2 ^ (min i j + ((1074 : Nat) : Int)).toNat : Nat) : Int) = a + b := hX
    rw [hX', Nat.sub_self, Nat.pow_zero, Int.natCast_one, Int.mul_one] at l1
    exact l1
  · have hX' : sg (if total = 0 then s && t else decide (total < 0)) * ((total.natAbs * 2 ^ (min i j + ((1074 : Nat) : Int)).toNat : Nat) : Int) = a + b := hX
    rw [hX', Nat.sub_self, Nat.pow_zero, Int.natCast_one, Int.mul_one] at l2
    exact l2

theorem add_law {x y : Nat} {a b : Int} (hx : Num x a) (hy : Num y b) (E : Nat) (hE : E ≤ 53) (h1 : -(((2 ^ E : Nat) : Int) * U) ≤ a + b) (h2 : a + b ≤ ((2 ^ E : Nat) : Int) * U) :
    ∃ r V, double.add x y = some r ∧ Num r V ∧ -U ≤ ((2 ^ (53 - E) : Nat) : Int) * (V - (a + b)) ∧ ((2 ^ (53 - E) : Nat) : Int) * (V - (a + b)) ≤ U := by
  obtain ⟨s, m, i, hr, hi, ha⟩ := hx
  obtain ⟨t, n, j, hr', hj, hb⟩ := hy
  unfold Format.add
  rw [hr, hr']
  exact sum_law s t m n i j hi hj a b ha hb E hE h1 h2

theorem sub_law {x y : Nat} {a b : Int} (hx : Num x a) (hy : Num y b) (E : Nat) (hE : E ≤ 53) (h1 : -(((2 ^ E : Nat) : Int) * U) ≤ a - b) (h2 : a - b ≤ ((2 ^ E : Nat) : Int) * U) :
    ∃ r V, double.sub x y = some r ∧ Num r V ∧ -U ≤ ((2 ^ (53 - E) : Nat) : Int) * (V - (a - b)) ∧ ((2 ^ (53 - E) : Nat) : Int) * (V - (a - b)) ≤ U := by
  obtain ⟨s, m, i, hr, hi, ha⟩ := hx
  obtain ⟨t, n, j, hr', hj, hb⟩ := hy
  unfold Format.sub
  rw [hr, hr']
  have hb' : -b = sg (!t) * ((n * 2 ^ (j + 1074).toNat : Nat) : Int) := by rw [sg_not, Int.neg_mul, ← hb]
  have := sum_law s (!t) m n i j hi hj a (-b) ha hb' E hE (by simpa [Int.sub_eq_add_neg] using h1) (by simpa [Int.sub_eq_add_neg] using h2)
  rw [Int.sub_eq_add_neg]
  exact this

set_option exponentiation.threshold 3000 in
theorem mul_law {x y : Nat} {a b : Int} (hx : Num x a) (hy : Num y b) (E : Nat) (hE : E ≤ 53) (h1 : -(((2 ^ E : Nat) : Int) * U * U) ≤ a * b) (h2 : a * b ≤ ((2 ^ E : Nat) : Int) * U * U) :
    ∃ r V, double.mul x y = some r ∧ Num r V ∧ -(U * U) ≤ ((2 ^ (53 - E) : Nat) : Int) * (V * U - a * b) ∧ ((2 ^ (53 - E) : Nat) : Int) * (V * U - a * b) ≤ U * U := by
  obtain ⟨s, m, i, hr, hi, ha⟩ := hx
  obtain ⟨t, n, j, hr', hj, hb⟩ := hy
  have hprod : sg (s ^^ t) * ((m * n * 2 ^ (i + j + ((2148 : Nat) : Int)).toNat : Nat) : Int) = a * b := by
    have e : (i + j + ((2148 : Nat) : Int)).toNat = (i + 1074).toNat + (j + 1074).toNat := by omega
    rw [ha, hb, e, sg_xor, Nat.pow_add]
    simp only [Int.natCast_mul]
    generalize ((2 ^ (i + 1074).toNat : Nat) : Int) = P
    generalize ((2 ^ (j + 1074).toNat : Nat) : Int) = Q
    generalize sg s = f
    generalize sg t = g
    simp only [Int.mul_assoc, Int.mul_left_comm, Int.mul_comm]
  have hUU : ((2 ^ 2148 : Nat) : Int) = U * U := by
    have e : (2148 : Nat) = 1074 + 1074 := rfl
    rw [e, Nat.pow_add, Int.natCast_mul]
    rfl
  have habs : ((m * n * 2 ^ (i + j + ((2148 : Nat) : Int)).toNat : Nat) : Int) ≤ ((2 ^ E : Nat) : Int) * U * U := by
    generalize m * n * 2 ^ (i + j + ((2148 : Nat) : Int)).toNat = Z at hprod ⊢
    generalize ((2 ^ E : Nat) : Int) * U * U = W at h1 h2 ⊢
    generalize (s ^^ t) = sn at hprod
    cases sn <;> simp only [sg, if_true, if_false, Bool.false_eq_true] at hprod <;> omega
  have habs' : m * n * 2 ^ (i + j + ((2148 : Nat) : Int)).toNat ≤ 2 ^ (E + 2148) := by
    rw [Nat.pow_add]
    rw [Int.mul_assoc, ← hUU, ← Int.natCast_mul] at habs
    exact Int.ofNat_le.1 habs
  obtain ⟨V, hV, l1, l2⟩ := round_law (s ^^ t) (m * n) (i + j) 2148 E (by omega) (by omega) hE habs'
  have e3 : ((2 ^ (2148 - 1074) : Nat) : Int) = U := rfl
  rw [hprod, hUU, e3] at l1 l2
  refine ⟨_, V, ?_, hV, l1, l2⟩
  unfold Format.mul
  rw [hr, hr']
  rfl

/-- Times a constant C * 2^-k. -/
theorem mul_const {x y : Nat} {a b : Int} (hx : Num x a) (hy : Num y b) (C : Int) (q : Int) (hq : 0 < q) (hb : q * b = C * U) (E : Nat) (hE : E ≤ 53)
    (h1 : -(((2 ^ E : Nat) : Int) * (q * U)) ≤ C * a) (h2 : C * a ≤ ((2 ^ E : Nat) : Int) * (q * U)) :
    (∃ r V, double.mul x y = some r ∧ Num r V ∧ -(q * U) ≤ ((2 ^ (53 - E) : Nat) : Int) * (q * V - C * a) ∧ ((2 ^ (53 - E) : Nat) : Int) * (q * V - C * a) ≤ q * U) ∧
    (∃ r V, double.mul y x = some r ∧ Num r V ∧ -(q * U) ≤ ((2 ^ (53 - E) : Nat) : Int) * (q * V - C * a) ∧ ((2 ^ (53 - E) : Nat) : Int) * (q * V - C * a) ≤ q * U) := by
  have hU := U_pos
  have hab : q * (a * b) = C * a * U := by
    rw [Int.mul_left_comm, hb, ← Int.mul_assoc, Int.mul_comm a C]
  have g1 : -(((2 ^ E : Nat) : Int) * U * U) ≤ a * b := by
    refine Int.le_of_mul_le_mul_left ?_ hq
    rw [hab]
    have := Int.mul_le_mul_of_nonneg_right h1 (Int.le_of_lt hU)
    refine Int.le_trans (Int.le_of_eq ?_) this
    simp only [Int.mul_neg, Int.mul_assoc, Int.mul_left_comm, Int.mul_comm]
  have g2 : a * b ≤ ((2 ^ E : Nat) : Int) * U * U := by
    refine Int.le_of_mul_le_mul_left ?_ hq
    rw [hab]
    have := Int.mul_le_mul_of_nonneg_right h2 (Int.le_of_lt hU)
    refine Int.le_trans this (Int.le_of_eq ?_)
    simp only [Int.mul_assoc, Int.mul_left_comm, Int.mul_comm]
  have fin : ∀ (F V : Int), -(U * U) ≤ F * (V * U - a * b) → F * (V * U - a * b) ≤ U * U → -(q * U) ≤ F * (q * V - C * a) ∧ F * (q * V - C * a) ≤ q * U := by
    intro F V l1 l2
    have e : (F * (q * V - C * a)) * U = q * (F * (V * U - a * b)) := by
      rw [Int.mul_left_comm q F, Int.mul_sub q, hab, Int.mul_assoc, Int.sub_mul]
      simp only [Int.mul_assoc]
    have k1 := Int.mul_le_mul_of_nonneg_left l1 (Int.le_of_lt hq)
    have k2 := Int.mul_le_mul_of_nonneg_left l2 (Int.le_of_lt hq)
    rw [← e] at k1 k2
    constructor
    · refine Int.le_of_mul_le_mul_right ?_ hU
      refine Int.le_trans (Int.le_of_eq ?_) k1
      simp only [Int.neg_mul, Int.mul_neg, Int.mul_assoc]
    · refine Int.le_of_mul_le_mul_right ?_ hU
      refine Int.le_trans k2 (Int.le_of_eq ?_)
      simp only [Int.mul_assoc]
  constructor
  · obtain ⟨r, V, h, hV, l1, l2⟩ := mul_law hx hy E hE g1 g2
    exact ⟨r, V, h, hV, fin _ V l1 l2⟩
  · obtain ⟨r, V, h, hV, l1, l2⟩ := mul_law hy hx E hE (by rw [Int.mul_comm b a]; exact g1) (by rw [Int.mul_comm b a]; exact g2)
    rw [Int.mul_comm b a] at l1 l2
    exact ⟨r, V, h, hV, fin _ V l1 l2⟩

theorem quot_parts (m n more : Nat) (hn : 0 < n) (_hm : 0 < m) :
    n * (2 * (m <<< more / n) + (m <<< more % n != 0).toNat) ≤ 2 * (m * 2 ^ more) + n ∧ 2 * (m * 2 ^ more) ≤ n * (2 * (m <<< more / n) + (m <<< more % n != 0).toNat) + n := by
  rw [Nat.shiftLeft_eq]
  have hdm := Nat.div_add_mod (m * 2 ^ more) n
  have hr := Nat.mod_lt (m * 2 ^ more) hn
  generalize m * 2 ^ more = d at hdm hr ⊢
  generalize d / n = Q at hdm ⊢
  generalize d % n = R at hdm hr ⊢
  rw [Nat.mul_add, Nat.mul_left_comm]
  by_cases h : R = 0
  · subst h
    simp
    omega
  · have : (R != 0) = true := by simp [h]
    rw [this]
    simp
    omega

theorem quot_big (m n : Nat) (hn : 0 < n) (hm : 0 < m) : 18014398509481984 ≤ 2 * (m <<< (54 + n.log2 - m.log2) / n) := by
  have h1 : 2 ^ m.log2 ≤ m := Nat.log2_self_le (by omega)
  have h2 : n < 2 ^ (n.log2 + 1) := Nat.lt_log2_self
  have h3 : 9007199254740992 * n ≤ m <<< (54 + n.log2 - m.log2) := by
    rw [Nat.shiftLeft_eq]
    have e : 2 ^ (54 + n.log2) ≤ m * 2 ^ (54 + n.log2 - m.log2) := by
      refine Nat.le_trans ?_ (Nat.mul_le_mul_right _ h1)
      rw [← Nat.pow_add]
      exact Nat.pow_le_pow_right (by omega) (by omega)
    refine Nat.le_trans ?_ e
    have : 2 ^ (54 + n.log2) = 9007199254740992 * 2 ^ (n.log2 + 1) := by
      rw [Nat.pow_add, Nat.pow_succ]
      omega
    rw [this]
    exact Nat.mul_le_mul_left _ (by omega)
  have := (Nat.le_div_iff_mul_le hn).2 h3
  omega

set_option exponentiation.threshold 3000 in
/-- Divided by a constant n * 2^-k. -/
theorem div_const {x y : Nat} {a : Int} (hx : Num x a) (n k : Nat) (hy : double.read y = .number false n (-(k : Int))) (hn : 0 < n) (E : Nat) (hE : E ≤ 52)
    (h1 : -(((2 ^ E : Nat) : Int) * ((n : Int) * U)) ≤ ((2 ^ k : Nat) : Int) * a) (h2 : ((2 ^ k : Nat) : Int) * a ≤ ((2 ^ E : Nat) : Int) * ((n : Int) * U)) :
    ∃ r V, double.div x y = some r ∧ Num r V ∧ -(2 * ((n : Int) * U)) ≤ ((2 ^ (52 - E) : Nat) : Int) * ((n : Int) * V - ((2 ^ k : Nat) : Int) * a) ∧
      ((2 ^ (52 - E) : Nat) : Int) * ((n : Int) * V - ((2 ^ k : Nat) : Int) * a) ≤ 2 * ((n : Int) * U) := by
  obtain ⟨s, m, i, hr, hi, ha⟩ := hx
  have hU := U_pos
  have hnU : 0 < (n : Int) * U := Int.mul_pos (by omega) hU
  have hdiv : double.div x y = some (double.nearest (s ^^ false) (2 * (m <<< (54 + n.log2 - m.log2) / n) + (m <<< (54 + n.log2 - m.log2) % n != 0).toNat) (i - -(k : Int) - ((54 + n.log2 - m.log2 : Nat) : Int) - 1)) := by
    unfold Format.div
    rw [hr, hy]
    simp only [Datum.quotient]
    rw [if_neg (by omega)]
    rfl
  by_cases hm : m = 0
  · subst hm
    have ha0 : a = 0 := by rw [ha]; simp
    subst ha0
    refine ⟨_, 0, hdiv, ?_, ?_, ?_⟩
    · simp only [Nat.zero_shiftLeft, Nat.zero_div, Nat.zero_mod]
      exact num_zero _ _
    · simp; omega
    · simp; omega
  have hm : 0 < m := by omega
  have hp := quot_parts m n (54 + n.log2 - m.log2) hn hm
  have hbig := quot_big m n hn hm
  generalize 54 + n.log2 - m.log2 = more at hdiv hp hbig
  obtain ⟨mag, hmag⟩ : ∃ z, 2 * (m <<< more / n) + (m <<< more % n != 0).toNat = z := ⟨_, rfl⟩
  rw [hmag] at hp hdiv
  have hmb : 18014398509481984 ≤ mag := by omega
  clear hmag hbig
  -- the place, read at 2^-T
  have hpl : (i - -(k : Int) - (more : Int) - 1 + ((1074 + (more + 1) : Nat) : Int)).toNat = (i + 1074).toNat + k := by omega
  have hG : ((2 ^ (1074 + (more + 1)) : Nat) : Int) = U * ((2 ^ (more + 1) : Nat) : Int) := by
    rw [Nat.pow_add, Int.natCast_mul]; rfl
  obtain ⟨wz, hw⟩ : ∃ z, 2 ^ ((i + 1074).toNat + k) = z := ⟨_, rfl⟩
  have hwpos : 0 < wz := by rw [← hw]; exact Nat.two_pow_pos _
  -- |a| 2^k in terms of m
  have haw : sg s * ((m * wz : Nat) : Int) = ((2 ^ k : Nat) : Int) * a := by
    rw [ha, ← hw, Nat.pow_add]
    simp only [Int.natCast_mul, Int.mul_assoc, Int.mul_left_comm, Int.mul_comm]
  have hp1 := Nat.mul_le_mul_right wz hp.1
  have hp2 := Nat.mul_le_mul_right wz hp.2
  have e2 : 2 ^ (more + 1) = 2 * 2 ^ more := by rw [Nat.pow_succ]; omega
  have q1 : n * (mag * wz) ≤ (m * wz) * 2 ^ (more + 1) + n * wz := by
    rw [e2]
    refine Nat.le_trans (Nat.le_of_eq ?_) (Nat.le_trans hp1 (Nat.le_of_eq ?_))
    · rw [Nat.mul_assoc]
    · rw [Nat.add_mul]
      simp only [Nat.mul_assoc, Nat.mul_left_comm, Nat.mul_comm]
  have q2 : (m * wz) * 2 ^ (more + 1) ≤ n * (mag * wz) + n * wz := by
    rw [e2]
    refine Nat.le_trans (Nat.le_of_eq ?_) (Nat.le_trans hp2 (Nat.le_of_eq ?_))
    · simp only [Nat.mul_assoc, Nat.mul_left_comm, Nat.mul_comm]
    · rw [Nat.add_mul, Nat.mul_assoc]
  clear hp hp1 hp2
  -- the bound on |a|
  have hA : ((m * wz : Nat) : Int) ≤ ((2 ^ E : Nat) : Int) * ((n : Int) * U) := by
    generalize m * wz = Z at haw ⊢
    generalize ((2 ^ E : Nat) : Int) * ((n : Int) * U) = W at h1 h2 ⊢
    generalize ((2 ^ k : Nat) : Int) * a = B at h1 h2 haw
    cases s <;> simp only [sg, if_true, if_false, Bool.false_eq_true] at haw <;> omega
  have hAn : m * wz ≤ n * 2 ^ (E + 1074) := by
    have : ((m * wz : Nat) : Int) ≤ ((n * 2 ^ (E + 1074) : Nat) : Int) := by
      refine Int.le_trans hA (Int.le_of_eq ?_)
      rw [Nat.pow_add, Int.natCast_mul, Int.natCast_mul]
      unfold U
      rw [Int.mul_left_comm]
    exact Int.ofNat_le.1 this
  have hmw : 18014398509481984 * wz ≤ mag * wz := Nat.mul_le_mul_right _ hmb
  have hX0 : mag * wz ≤ 2 ^ (E + 1074) * 2 ^ (more + 1) + wz := by
    refine Nat.le_of_mul_le_mul_left ?_ hn
    refine Nat.le_trans q1 ?_
    rw [Nat.mul_add, ← Nat.mul_assoc n]
    exact Nat.add_le_add_right (Nat.mul_le_mul_right _ hAn) _
  have hT : E + 1 + (1074 + (more + 1)) = (E + 1074 + (more + 1)) + 1 := by omega
  have hX : mag * 2 ^ (i - -(k : Int) - (more : Int) - 1 + ((1074 + (more + 1) : Nat) : Int)).toNat ≤ 2 ^ (E + 1 + (1074 + (more + 1))) := by
    rw [hpl, hw, hT, Nat.pow_succ, Nat.pow_add]
    omega
  obtain ⟨V, hV, l1, l2⟩ := round_law (s ^^ false) mag (i - -(k : Int) - (more : Int) - 1) (1074 + (more + 1)) (E + 1) (by omega) (by omega) (by omega) hX
  refine ⟨_, V, hdiv, hV, ?_⟩
  rw [hpl, hw, hG] at l1 l2
  rw [hpl, hw] at hX
  have e5 : 1074 + (more + 1) - 1074 = more + 1 := by omega
  have e6 : 53 - (E + 1) = 52 - E := by omega
  rw [e5, e6, Bool.xor_false] at l1 l2
  -- the unit that the quotient leaves out
  have hFw : 2 ^ (52 - E) * wz ≤ 2 ^ (1074 + (more + 1)) := by
    have t1 : 18014398509481984 * (2 ^ (52 - E) * wz) ≤ 2 ^ (52 - E) * 2 ^ (E + 1 + (1074 + (more + 1))) := by
      rw [Nat.mul_left_comm]
      exact Nat.mul_le_mul_left _ (Nat.le_trans hmw hX)
    rw [← Nat.pow_add] at t1
    have t2 : 52 - E + (E + 1 + (1074 + (more + 1))) = 53 + (1074 + (more + 1)) := by omega
    rw [t2, Nat.pow_add 2 53] at t1
    have t3 : (2 : Nat) ^ 53 = 9007199254740992 := by decide
    rw [t3] at t1
    omega
  have hFw' : ((2 ^ (52 - E) : Nat) : Int) * (wz : Int) ≤ U * ((2 ^ (more + 1) : Nat) : Int) := by
    rw [← hG, ← Int.natCast_mul]
    exact Int.ofNat_le.2 hFw
  have hGpos : 0 < ((2 ^ (more + 1) : Nat) : Int) := by have := Nat.two_pow_pos (more + 1); omega
  have hFpos : 0 ≤ ((2 ^ (52 - E) : Nat) : Int) := Int.natCast_nonneg _
  generalize ((2 ^ (52 - E) : Nat) : Int) = F at l1 l2 hFw' hFpos ⊢
  have q1' : (n : Int) * ((mag * wz : Nat) : Int) ≤ ((m * wz : Nat) : Int) * ((2 ^ (more + 1) : Nat) : Int) + (n : Int) * (wz : Int) := by
    rw [← Int.natCast_mul, ← Int.natCast_mul, ← Int.natCast_mul, ← Int.natCast_add]; exact Int.ofNat_le.2 q1
  have q2' : ((m * wz : Nat) : Int) * ((2 ^ (more + 1) : Nat) : Int) ≤ (n : Int) * ((mag * wz : Nat) : Int) + (n : Int) * (wz : Int) := by
    rw [← Int.natCast_mul, ← Int.natCast_mul, ← Int.natCast_mul, ← Int.natCast_add]; exact Int.ofNat_le.2 q2
  rw [← haw]
  clear haw hA hAn hmw hX0 hX q1 q2 h1 h2 hFw hdiv hV
  generalize ((2 ^ (more + 1) : Nat) : Int) = G at *
  generalize ((mag * wz : Nat) : Int) = X at *
  generalize ((m * wz : Nat) : Int) = A at *
  generalize (wz : Int) = w at *
  have hnn : 0 ≤ (n : Int) := Int.natCast_nonneg _
  -- n F (V G - sg X) and F (n sg X - sg A G)
  have r1 := Int.mul_le_mul_of_nonneg_left l1 hnn
  have r2 := Int.mul_le_mul_of_nonneg_left l2 hnn
  have r3 := Int.mul_le_mul_of_nonneg_left q1' hFpos
  have r4 := Int.mul_le_mul_of_nonneg_left q2' hFpos
  have r5 := Int.mul_le_mul_of_nonneg_left hFw' hnn
  have key : (F * ((n : Int) * V - sg s * A)) * G = (n : Int) * (F * (V * G - sg s * X)) + sg s * (F * ((n : Int) * X) - F * (A * G)) := by
    simp only [Int.mul_sub, Int.sub_mul, Int.mul_assoc, Int.mul_left_comm, Int.mul_comm]
    omega
  have r1' : -((n : Int) * (U * G)) ≤ (n : Int) * (F * (V * G - sg s * X)) := by rw [← Int.mul_neg]; exact r1
  rw [Int.mul_add] at r3 r4
  have r5' : F * ((n : Int) * w) ≤ (n : Int) * (U * G) := by rw [Int.mul_left_comm]; exact r5
  have out : -(2 * ((n : Int) * U)) * G ≤ (F * ((n : Int) * V - sg s * A)) * G ∧ (F * ((n : Int) * V - sg s * A)) * G ≤ 2 * ((n : Int) * U) * G := by
    have e7 : 2 * ((n : Int) * U) * G = 2 * ((n : Int) * (U * G)) := by simp only [Int.mul_assoc]
    rw [Int.neg_mul, e7, key]
    generalize (n : Int) * (F * (V * G - sg s * X)) = Z1 at r1' r2 ⊢
    generalize F * ((n : Int) * X) = Z2 at r3 r4 ⊢
    generalize F * (A * G) = Z3 at r3 r4 ⊢
    generalize F * ((n : Int) * w) = Z4 at r3 r4 r5'
    generalize (n : Int) * (U * G) = Z5 at *
    cases s <;> simp only [sg, if_true, if_false, Bool.false_eq_true] <;> omega
  exact ⟨Int.le_of_mul_le_mul_right out.1 hGpos, Int.le_of_mul_le_mul_right out.2 hGpos⟩
end Go.Proofs.Qxb6613046a.Fl

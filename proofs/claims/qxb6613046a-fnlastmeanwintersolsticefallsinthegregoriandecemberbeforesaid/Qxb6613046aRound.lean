/- Floats of 64 bits as whole numbers of 2^-1074, and what rounding to the nearest costs: no Go in sight. -/
import Derived.Laws.FloatArith
namespace Go.Proofs.Qxb6613046a.Fl
open Ieee

/-- The sign as a factor. -/
def sg (s : Bool) : Int := if s then -1 else 1

theorem signed_eq (s : Bool) (m up : Nat) : signed s m up = sg s * ((m * 2 ^ up : Nat) : Int) := by
  unfold signed sg
  rw [Nat.shiftLeft_eq]
  cases s <;> simp

/-- The word b is a finite number: V times 2^-1074. -/
def Num (b : Nat) (V : Int) : Prop :=
  ∃ s m p, double.read b = .number s m p ∧ -1074 ≤ p ∧ V = sg s * ((m * 2 ^ (p + 1074).toNat : Nat) : Int)

theorem cut_even (neg : Bool) (n drop : Nat) :
    2 * (Toward.even.cut neg n drop * 2 ^ drop) ≤ 2 * n + 2 ^ drop ∧ 2 * n ≤ 2 * (Toward.even.cut neg n drop * 2 ^ drop) + 2 ^ drop := by
  unfold Toward.cut
  simp only [Nat.one_shiftLeft]
  have hlt : n < 2 ^ (n.log2 + 1) := Nat.lt_log2_self
  by_cases h : drop ≤ n.log2 + 2
  · rw [Nat.min_eq_left h]
    have hg : 0 < 2 ^ drop := Nat.two_pow_pos _
    generalize 2 ^ drop = g at hg ⊢
    have hdm := Nat.div_add_mod n g
    have hr := Nat.mod_lt n hg
    generalize n / g = low at hdm ⊢
    generalize n % g = rest at hdm hr ⊢
    rw [Nat.mul_comm] at hdm
    by_cases hm : (decide (g < 2 * rest) || (g == 2 * rest && low % 2 == 1)) = true
    · rw [hm]
      have : g ≤ 2 * rest := by
        simp at hm
        omega
      simp only [Bool.toNat_true, Nat.add_mul, Nat.one_mul]
      omega
    · have hm' : (decide (g < 2 * rest) || (g == 2 * rest && low % 2 == 1)) = false := by simpa using hm
      rw [hm']
      have : 2 * rest ≤ g := by
        simp at hm
        omega
      simp only [Bool.toNat_false, Nat.add_zero]
      omega
  · have h' : n.log2 + 2 ≤ drop := by omega
    rw [Nat.min_eq_right h']
    have hle : 2 ^ (n.log2 + 2) ≤ 2 ^ drop := Nat.pow_le_pow_right (by omega) h'
    have h2 : 2 ^ (n.log2 + 2) = 2 * 2 ^ (n.log2 + 1) := by rw [Nat.pow_succ]; omega
    have hn : n < 2 ^ (n.log2 + 2) := by omega
    have e1 : n / 2 ^ (n.log2 + 2) = 0 := Nat.div_eq_of_lt hn
    have e2 : n % 2 ^ (n.log2 + 2) = n := Nat.mod_eq_of_lt hn
    rw [e1, e2]
    have hm : (decide (2 ^ (n.log2 + 2) < 2 * n) || (2 ^ (n.log2 + 2) == 2 * n && 0 % 2 == 1)) = false := by
      simp
      omega
    rw [hm]
    simp
    omega

theorem read_word (neg : Bool) (e kept : Nat) (h0 : kept < 4503599627370496 → e = 0) (h1 : kept ≤ 9007199254740992) (he : e ≤ 2000) :
    ∃ m p, double.read (double.word neg (min (e * double.binade + kept) double.infRung)) = .number neg m p ∧ -1074 ≤ p ∧ m * 2 ^ (p + 1074).toNat = kept * 2 ^ e := by
  have hb : double.binade = 4503599627370496 := by decide
  have hi : double.infRung = 9218868437227405312 := by decide
  have hs : double.signWeight = 9223372036854775808 := by decide
  have hl : double.leastPlace = -1074 := by decide
  have hmin : min (e * double.binade + kept) double.infRung = e * 4503599627370496 + kept := by rw [hb, hi]; omega
  rw [hmin]
  have hr : e * 4503599627370496 + kept < 9218868437227405312 := by omega
  have hw : double.word neg (e * 4503599627370496 + kept) / 9223372036854775808 % 2 = (if neg then 1 else 0) ∧ double.word neg (e * 4503599627370496 + kept) % 9223372036854775808 = e * 4503599627370496 + kept := by
    unfold Format.word
    rw [hs]
    cases neg <;> simp <;> omega
  have hn : (double.word neg (e * 4503599627370496 + kept) / double.signWeight % 2 == 1) = neg := by
    rw [hs, hw.1]; cases neg <;> rfl
  unfold Format.read
  rw [hn]
  simp only [hs, hw.2, hb, hi, hl]
  by_cases c0 : e * 4503599627370496 + kept < 4503599627370496
  · rw [if_pos c0]
    have : e = 0 := by omega
    subst this
    exact ⟨_, _, rfl, by omega, by simp⟩
  · rw [if_neg c0, if_pos hr]
    by_cases c1 : kept = 9007199254740992
    · subst c1
      have d1 : (e * 4503599627370496 + 9007199254740992) / 4503599627370496 - 1 = e + 1 := by omega
      have d2 : (e * 4503599627370496 + 9007199254740992) % 4503599627370496 = 0 := by omega
      refine ⟨_, _, rfl, by omega, ?_⟩
      rw [d1, d2]
      have d3 : ((-1074 : Int) + ((e + 1 : Nat) : Int) + 1074).toNat = e + 1 := by omega
      rw [d3, Nat.pow_succ]
      omega
    · have hk : 4503599627370496 ≤ kept := by
        by_cases hk : kept < 4503599627370496
        · have := h0 hk; omega
        · omega
      have d1 : (e * 4503599627370496 + kept) / 4503599627370496 - 1 = e := by omega
      have d2 : 4503599627370496 + (e * 4503599627370496 + kept) % 4503599627370496 = kept := by omega
      refine ⟨_, _, rfl, by omega, ?_⟩
      rw [d1, d2]
      have d3 : ((-1074 : Int) + ((e : Nat) : Int) + 1074).toNat = e := by omega
      rw [d3]

/-- What is kept of a number that is not nought, and where its last digit stands. -/
def lastOf (mag : Nat) (place : Int) : Int := max (place + mag.log2 - 52) (-1074)
def keptOf (neg : Bool) (mag : Nat) (place : Int) : Nat := Toward.even.cut neg (mag <<< (place - lastOf mag place).toNat) (lastOf mag place - place).toNat

theorem cut_zero (neg : Bool) (n : Nat) : Toward.even.cut neg n 0 = n := by
  have := cut_even neg n 0
  simp only [Nat.pow_zero, Nat.mul_one] at this
  omega

theorem kept_bounds (neg : Bool) (mag : Nat) (place : Int) (h : 0 < mag) :
    (keptOf neg mag place < 4503599627370496 → lastOf mag place = -1074) ∧ keptOf neg mag place ≤ 9007199254740992 := by
  have h1 : 2 ^ mag.log2 ≤ mag := Nat.log2_self_le (by omega)
  have h2 : mag < 2 ^ (mag.log2 + 1) := Nat.lt_log2_self
  have c52 : (4503599627370496 : Nat) = 2 ^ 52 := by decide
  have c53 : (9007199254740992 : Nat) = 2 ^ 53 := by decide
  unfold keptOf
  obtain ⟨last, hl⟩ : ∃ l, lastOf mag place = l := ⟨_, rfl⟩
  rw [hl]
  unfold lastOf at hl
  generalize mag.log2 = L at h1 h2 hl
  by_cases ha : last ≤ place
  · have hd : (last - place).toNat = 0 := by omega
    rw [hd, cut_zero, Nat.shiftLeft_eq]
    obtain ⟨a, ha'⟩ : ∃ a, (place - last).toNat = a := ⟨_, rfl⟩
    rw [ha']
    have hu : L + 1 + a ≤ 53 := by omega
    have hup : mag * 2 ^ a < 2 ^ 53 := by
      have : mag * 2 ^ a < 2 ^ (L + 1) * 2 ^ a := Nat.mul_lt_mul_of_pos_right h2 (Nat.two_pow_pos _)
      rw [← Nat.pow_add] at this
      exact Nat.lt_of_lt_of_le this (Nat.pow_le_pow_right (by omega) hu)
    refine ⟨fun hk => ?_, by rw [c53]; omega⟩
    by_cases hc : last = -1074
    · exact hc
    · exfalso
      have hs : L + a = 52 := by omega
      have : 2 ^ L * 2 ^ a ≤ mag * 2 ^ a := Nat.mul_le_mul_right _ h1
      rw [← Nat.pow_add, hs] at this
      rw [c52] at hk
      omega
  · have hz : (place - last).toNat = 0 := by omega
    rw [hz, Nat.shiftLeft_zero]
    obtain ⟨d, hd⟩ : ∃ d, (last - place).toNat = d := ⟨_, rfl⟩
    rw [hd]
    have hc := cut_even neg mag d
    generalize Toward.even.cut neg mag d = k at hc ⊢
    have hu : L + 1 ≤ 53 + d := by omega
    have hP : 0 < 2 ^ d := Nat.two_pow_pos _
    have hup : mag < 2 ^ 53 * 2 ^ d := by
      rw [← Nat.pow_add]
      exact Nat.lt_of_lt_of_le h2 (Nat.pow_le_pow_right (by omega) hu)
    have hlow : last ≠ -1074 → 2 ^ 52 * 2 ^ d ≤ mag := by
      intro hne
      have hs : L = 52 + d := by omega
      rw [← Nat.pow_add, ← hs]
      exact h1
    rw [← c53] at hup
    rw [← c52] at hlow
    generalize 2 ^ d = g at hc hP hup hlow
    refine ⟨fun hk => ?_, ?_⟩
    · by_cases hc' : last = -1074
      · exact hc'
      · exfalso
        have hl' := hlow hc'
        have : k * g ≤ 4503599627370495 * g := Nat.mul_le_mul_right _ (by omega)
        omega
    · by_cases hk : k ≤ 9007199254740992
      · exact hk
      · exfalso
        have : 9007199254740993 * g ≤ k * g := Nat.mul_le_mul_right _ (by omega)
        omega

theorem near_law (neg : Bool) (mag : Nat) (place : Int) (h : 0 < mag) (ho : place + mag.log2 ≤ 900) :
    Num (double.nearest neg mag place) (sg neg * ((keptOf neg mag place * 2 ^ (lastOf mag place + 1074).toNat : Nat) : Int)) := by
  have hb := kept_bounds neg mag place h
  have hm : ¬ mag = 0 := by omega
  have hlast : lastOf mag place ≤ 900 := by unfold lastOf; omega
  obtain ⟨m, p, h1, h2, h3⟩ := read_word neg (lastOf mag place + 1074).toNat (keptOf neg mag place) (fun hk => by have := hb.1 hk; omega) hb.2 (by omega)
  have e : double.nearest neg mag place = double.word neg (min ((lastOf mag place + 1074).toNat * double.binade + keptOf neg mag place) double.infRung) := by
    unfold Format.nearest
    rw [if_neg hm]
    have e1 : (double.fractionBits : Int) = 52 := rfl
    have e2 : double.leastPlace = -1074 := by decide
    have e3 : max (place + (mag.log2 : Int) - (double.fractionBits : Int)) (-1074) = lastOf mag place := by rw [e1]; rfl
    simp only [e2, e3]
    have e4 : lastOf mag place - -1074 = lastOf mag place + 1074 := by omega
    rw [e4]
    rfl
  rw [e]
  exact ⟨neg, m, p, h1, h2, by rw [h3]⟩

theorem num_zero (neg : Bool) (place : Int) : Num (double.nearest neg 0 place) 0 := by
  obtain ⟨m, p, h1, h2, h3⟩ := read_word neg 0 0 (fun _ => rfl) (by omega) (by omega)
  have e : double.nearest neg 0 place = double.word neg (min (0 * double.binade + 0) double.infRung) := by
    unfold Format.nearest
    rw [if_pos rfl]
    have : min (0 * double.binade + 0) double.infRung = 0 := by simp
    rw [this]
  rw [e]
  refine ⟨neg, m, p, h1, h2, ?_⟩
  rw [h3]
  simp

/-- WHAT ROUNDING COSTS: of a number that is at most 2^E, at most 2^(E-53). -/
theorem round_law (neg : Bool) (mag : Nat) (place : Int) (T E : Nat) (hT : 1074 ≤ T) (hp : 0 ≤ place + T) (hE : E ≤ 53) (hX : mag * 2 ^ (place + T).toNat ≤ 2 ^ (E + T)) :
    ∃ V, Num (double.nearest neg mag place) V ∧
      -((2 ^ T : Nat) : Int) ≤ ((2 ^ (53 - E) : Nat) : Int) * (V * ((2 ^ (T - 1074) : Nat) : Int) - sg neg * ((mag * 2 ^ (place + T).toNat : Nat) : Int)) ∧
      ((2 ^ (53 - E) : Nat) : Int) * (V * ((2 ^ (T - 1074) : Nat) : Int) - sg neg * ((mag * 2 ^ (place + T).toNat : Nat) : Int)) ≤ ((2 ^ T : Nat) : Int) := by
  by_cases h0 : mag = 0
  · subst h0
    refine ⟨0, num_zero neg place, ?_⟩
    generalize 2 ^ T = W
    simp
  have h : 0 < mag := by omega
  have h1 : 2 ^ mag.log2 ≤ mag := Nat.log2_self_le h0
  have hlog : place + mag.log2 ≤ E := by
    have : 2 ^ (mag.log2 + (place + T).toNat) ≤ 2 ^ (E + T) := by
      rw [Nat.pow_add]
      exact Nat.le_trans (Nat.mul_le_mul_right _ h1) hX
    have := (Nat.pow_le_pow_iff_right (by omega : 1 < 2)).1 this
    omega
  refine ⟨_, near_law neg mag place h (by omega), ?_⟩
  have hl : lastOf mag place ≤ (E : Int) - 52 ∨ lastOf mag place = -1074 := by unfold lastOf; omega
  have hl2 : lastOf mag place ≤ (E : Int) - 52 := by omega
  have hl3 : -1074 ≤ lastOf mag place := by unfold lastOf; omega
  have hkey : 2 * (keptOf neg mag place * 2 ^ (lastOf mag place + T).toNat) ≤ 2 * (mag * 2 ^ (place + T).toNat) + 2 ^ (lastOf mag place + T).toNat ∧
      2 * (mag * 2 ^ (place + T).toNat) ≤ 2 * (keptOf neg mag place * 2 ^ (lastOf mag place + T).toNat) + 2 ^ (lastOf mag place + T).toNat := by
    unfold keptOf
    generalize lastOf mag place = last at hl2 hl3 ⊢
    by_cases ha : last ≤ place
    · have hd : (last - place).toNat = 0 := by omega
      rw [hd, cut_zero, Nat.shiftLeft_eq, Nat.mul_assoc, ← Nat.pow_add]
      have : (place - last).toNat + (last + T).toNat = (place + T).toNat := by omega
      rw [this]
      generalize 2 ^ (last + (T : Int)).toNat = G
      omega
    · have hz : (place - last).toNat = 0 := by omega
      rw [hz, Nat.shiftLeft_zero]
      have hc := cut_even neg mag (last - place).toNat
      generalize Toward.even.cut neg mag (last - place).toNat = k at hc ⊢
      have e : (last + T).toNat = (last - place).toNat + (place + T).toNat := by omega
      rw [e, Nat.pow_add]
      generalize 2 ^ (last - place).toNat = g at hc ⊢
      generalize 2 ^ (place + T).toNat = q
      have c1 := Nat.mul_le_mul_right q hc.1
      have c2 := Nat.mul_le_mul_right q hc.2
      simp only [Nat.add_mul, Nat.mul_assoc] at c1 c2 ⊢
      omega
  have hFG : 2 ^ (53 - E) * 2 ^ (lastOf mag place + T).toNat ≤ 2 * 2 ^ T := by
    have : 2 * 2 ^ T = 2 ^ (T + 1) := by rw [Nat.pow_succ]; omega
    rw [this, ← Nat.pow_add]
    exact Nat.pow_le_pow_right (by omega) (by omega)
  have hV : sg neg * ((keptOf neg mag place * 2 ^ (lastOf mag place + 1074).toNat : Nat) : Int) * ((2 ^ (T - 1074) : Nat) : Int) = sg neg * ((keptOf neg mag place * 2 ^ (lastOf mag place + T).toNat : Nat) : Int) := by
    rw [Int.mul_assoc, ← Int.natCast_mul, Nat.mul_assoc, ← Nat.pow_add]
    have : (lastOf mag place + 1074).toNat + (T - 1074) = (lastOf mag place + T).toNat := by omega
    rw [this]
  rw [hV]
  generalize keptOf neg mag place * 2 ^ (lastOf mag place + T).toNat = K at hkey ⊢
  generalize mag * 2 ^ (place + T).toNat = X at hkey ⊢
  generalize 2 ^ (lastOf mag place + T).toNat = G at hkey hFG
  generalize 2 ^ (53 - E) = F at hFG ⊢
  generalize 2 ^ T = W at hFG ⊢
  have k1 := Nat.mul_le_mul_left F hkey.1
  have k2 := Nat.mul_le_mul_left F hkey.2
  rw [← Int.mul_sub]
  have e1 : (F : Int) * (sg neg * ((K : Int) - (X : Int))) = sg neg * ((F * K : Nat) - (F * X : Nat) : Int) := by
    rw [← Int.mul_assoc, Int.mul_comm (F : Int), Int.mul_assoc, Int.mul_sub, Int.natCast_mul, Int.natCast_mul]
  rw [e1]
  have k1' : 2 * (F * K) ≤ 2 * (F * X) + F * G := by
    rw [Nat.mul_add] at k1
    rw [Nat.mul_left_comm F 2 K, Nat.mul_left_comm F 2 X] at k1
    exact k1
  have k2' : 2 * (F * X) ≤ 2 * (F * K) + F * G := by
    rw [Nat.mul_add] at k2
    rw [Nat.mul_left_comm F 2 K, Nat.mul_left_comm F 2 X] at k2
    exact k2
  generalize F * K = A at k1' k2' ⊢
  generalize F * X = B at k1' k2' ⊢
  generalize F * G = C at k1' k2' hFG
  cases neg <;> simp only [sg, if_true, if_false, Bool.false_eq_true] <;> omega
end Go.Proofs.Qxb6613046a.Fl

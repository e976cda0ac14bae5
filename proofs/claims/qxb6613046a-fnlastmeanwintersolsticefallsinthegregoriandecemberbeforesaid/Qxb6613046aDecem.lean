/- The plain law of the December: which solstice a day names, and that each of the 8,419 solstices that can be named falls on December 15 to 25, by the kernel, one by one. -/
import Derived.Test.Qxb6613046aTrip
namespace Go.Proofs.Qxb6613046a.Fl

/-- Days since 0000-03-01 of the Gregorian calendar: the day within the 400 years, the century, the day within the century, the year within it, the day of that year, the month from March on, the day of the month. -/
def k1 (k : Nat) : Nat := k % 146097
def cen (k : Nat) : Nat := (4 * k1 k + 3) / 146097
def k2 (k : Nat) : Nat := k1 k - cen k * 36524
def yr (k : Nat) : Nat := (4 * k2 k + 3) / 1461
def doy (k : Nat) : Nat := k2 k - 1461 * yr k / 4
def mon (k : Nat) : Nat := (5 * doy k + 2) / 153
def dom (k : Nat) : Nat := doy k - (153 * mon k + 2) / 5 + 1

def dec (k : Nat) : Bool := Nat.ble 578041 k && Nat.beq (mon k) 9 && Nat.ble 15 (dom k) && Nat.ble (dom k) 25

/-- Solstice j - 418 falls on December 15 to 25. -/
def decAt (j : Nat) : Bool := dec ((69488855774925554003260989351346290 + 54257751665073650178730229760000 * (j + 15966)) / 148552804714245632987894906880 - 5721120)

set_option maxRecDepth 100000 in
theorem all_dec : allBelow decAt 8419 = true := by decide +kernel

theorem december (r D e : Int) (h1 : -418 ≤ r) (h2 : r ≤ 8000) (he : 364236640198509706579997446219186290 + 54257751665073650178730229760000 * r = 148552804714245632987894906880 * D + e) (e1 : 141670994486089356410880 ≤ e) (e2 : e ≤ 148552663043251146898538496000) :
    ∃ k : Nat, D = (k : Int) + 1721120 ∧ k ≤ 10000000 ∧ 578041 ≤ k ∧ mon k = 9 ∧ 15 ≤ dom k ∧ dom k ≤ 25 := by
  have h := allBelow_spec decAt 8419 all_dec (r + 418).toNat (by omega)
  unfold decAt at h
  have hj : (r + 418).toNat + 15966 = (r + 16384).toNat := by omega
  rw [hj] at h
  have hdm := Nat.div_add_mod (69488855774925554003260989351346290 + 54257751665073650178730229760000 * (r + 16384).toNat) 148552804714245632987894906880
  have hml := Nat.mod_lt (69488855774925554003260989351346290 + 54257751665073650178730229760000 * (r + 16384).toNat) (show 148552804714245632987894906880 > 0 by decide)
  generalize (69488855774925554003260989351346290 + 54257751665073650178730229760000 * (r + 16384).toNat) % 148552804714245632987894906880 = x at hdm hml
  generalize (69488855774925554003260989351346290 + 54257751665073650178730229760000 * (r + 16384).toNat) / 148552804714245632987894906880 = q at h hdm
  have hq : (q : Int) = D + 4000000 := by omega
  have hqb : q ≤ 15000000 := by omega
  unfold dec at h
  simp only [Bool.and_eq_true, Nat.ble_eq] at h
  obtain ⟨⟨⟨a1, a2⟩, a3⟩, a4⟩ := h
  exact ⟨q - 5721120, by omega, by omega, a1, Nat.eq_of_beq_eq_true a2, a3, a4⟩

/-- Which solstice a day names. -/
theorem named (day r D e : Int) (h1 : 2299600 ≤ day) (h2 : day ≤ 5373484) 
    (a1 : 954512461643697692737267870660545491993886720 * r ≤ 2613368577952807399398716985075979863982080 * day + -6407716125196460570304590637324247562731577671680) (a2 : 2613368577952807399398716985075979863982080 * day + (-6407716125196772108116102726981959392511330877440) < 954512461643697692737267870660545491993886720 * r + 954512461643697692737267870660545491993886720) :
    (-418 ≤ r ∧ r ≤ 8000) ∧ (364236640198509706579997446219186290 + 54257751665073650178730229760000 * r = 148552804714245632987894906880 * D + e → 141670994486089356410880 ≤ e → e ≤ 148552663043251146898538496000 → -1 ≤ day - D ∧ day - D ≤ 366) := by
  have hr : -418 ≤ r ∧ r ≤ 8000 := by omega
  refine ⟨hr, fun he e1 e2 => ?_⟩
  have hD : 2613368577952807399398716985075979863982080 * D = 17592186044416 * (364236640198509706579997446219186290 + 54257751665073650178730229760000 * r - e) := by omega
  obtain ⟨x, hx⟩ : ∃ x, day = D + x := ⟨day - D, by omega⟩
  subst hx
  have e3 : 2613368577952807399398716985075979863982080 * (D + x) = 17592186044416 * (364236640198509706579997446219186290 + 54257751665073650178730229760000 * r - e) + 2613368577952807399398716985075979863982080 * x := by omega
  rw [e3] at a1 a2
  clear e3 hD he h1 h2
  omega
end Go.Proofs.Qxb6613046a.Fl

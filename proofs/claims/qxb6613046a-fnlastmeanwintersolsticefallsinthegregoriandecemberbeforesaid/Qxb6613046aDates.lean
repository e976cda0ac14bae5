/- The walks of floorDiv, julianYear and DateOfDayNumber (functions 13, 14, 9). -/
import Derived.Test.Qxb6613046aWalks
import Derived.Test.Qxb6613046aDecem
import Derived.IntWalk
namespace Go.Proofs.Qxb6613046a.Fl
open Go.RowKit

set_option maxHeartbeats 400000 in
theorem div13 (a b : Int) (ha : 0 ≤ a) (ha2 : a ≤ 1000000000000) (hb : 0 < b) (w : World) : Calls Try.prog 13 #[.int .i64 a, .int .i64 b] w fun e w' => e = .returned (.int .i64 (a / b)) ∧ w' = w := by
  have hq0 : 0 ≤ a / b := Int.ediv_nonneg ha (Int.le_of_lt hb)
  have hq1 : a / b ≤ a := Int.ediv_le_self b ha
  have hr : 0 ≤ a % b := Int.emod_nonneg a (by omega)
  have hw : wrap64 (a / b) = a / b := by unfold wrap64; omega
  have hd : decide (a % b < 0) = false := decide_eq_false (by omega)
  go_enter Try.func13, Try.ntmps13
  go_wp2
  go_ret
  exact ⟨rfl, rfl⟩

set_option maxHeartbeats 400000 in
theorem year14 (k y g : Int) (h0 : 0 ≤ k) (h1 : k ≤ 1000000) (hy : (4 * k + 3) / 1461 = y) (hg : 1461 * y / 4 = g) (w : World) :
    Calls Try.prog 14 #[.int .i64 k] w fun e w' => e = .returned (.tuple #[.int .i64 y, .int .i64 (k - g)]) ∧ w' = w := by
  have b1 : 0 ≤ y := by omega
  have b2 : y ≤ 1000000 := by omega
  have b3 : 0 ≤ g := by omega
  have b4 : g ≤ 1000000000 := by omega
  have HY : Hid ((4 * k + 3) / 1461 = y) := hy
  have HG : Hid (1461 * y / 4 = g) := hg
  clear hy hg
  go_enter Try.func14, Try.ntmps14
  go_wp2_with fail
  refine (div13 _ _ (by omega) (by omega) (by omega) _).mono ?_
  rintro e w' ⟨rfl, rfl⟩
  rw [HY.out]
  go_wp2_with fail
  refine (div13 _ _ (by omega) (by omega) (by omega) _).mono ?_
  rintro e w' ⟨rfl, rfl⟩
  rw [HG.out]
  go_wp2
  go_ret2
  exact ⟨rfl, rfl⟩

set_option maxHeartbeats 1000000 in
theorem date9 (D k c a ce b y g : Int) (hk : D - 1721119 - 1 = k) (h0 : 578041 ≤ k) (h1 : k ≤ 10000000) (hc : k / 146097 = c) (ha : k - c * 146097 = a) (hce : (4 * a + 3) / 146097 = ce) (hb : a - ce * 36524 = b)
    (hy : (4 * b + 3) / 1461 = y) (hg : 1461 * y / 4 = g) (hm : (5 * (b - g) + 2) / 153 = 9) (w : World) :
    Calls Try.prog 9 #[.int .i64 D] w fun e w' => (∃ yy, e = .returned (.agg #[.int .i64 yy, .int .i64 12, .int .i64 (b - g - 275 + 1)])) ∧ Grown w w' := by
  have b1 : 0 ≤ c ∧ c ≤ 100 := by omega
  have b2 : 0 ≤ a ∧ a ≤ 146096 := by omega
  have b3 : 0 ≤ ce ∧ ce ≤ 4 := by omega
  have b4 : 0 ≤ b ∧ b ≤ 36525 := by omega
  have b5 : 0 ≤ y ∧ y ≤ 100 := by omega
  have b6 : 0 ≤ g ∧ g ≤ 36525 := by omega
  have b7 : 0 ≤ b - g ∧ b - g ≤ 366 := by omega
  have b8 : 2299161 ≤ D ∧ D ≤ 20000000 := by omega
  have hge : decide (2299161 ≤ D) = true := decide_eq_true b8.1
  have HK : Hid (D - 1721119 - 1 = k) := hk
  have HC : Hid (k / 146097 = c) := hc
  have HA : Hid (k - c * 146097 = a) := ha
  have HCE : Hid ((4 * a + 3) / 146097 = ce) := hce
  have HB : Hid (a - ce * 36524 = b) := hb
  have HY : Hid ((4 * b + 3) / 1461 = y) := hy
  have HG : Hid (1461 * y / 4 = g) := hg
  have HM : Hid ((5 * (b - g) + 2) / 153 = 9) := hm
  have hT2 : (5 * (b - g) + 2).tdiv 153 = 9 := by rw [Int.tdiv_eq_ediv_of_nonneg (by omega)]; exact hm
  have HT1 : Hid ((4 * a + 3).tdiv 146097 = ce) := (Int.tdiv_eq_ediv_of_nonneg (by omega)).trans hce
  have HW1 : Hid (wrap64 (ce * 36524) = ce * 36524) := show _ = _ by unfold wrap64; omega
  have HW2 : Hid (wrap64 b = b) := show _ = _ by unfold wrap64; omega
  clear hk hc ha hce hb hy hg hm
  go_enter Try.func9, Try.ntmps9
  go_wp2_with fail
  rw [HK.out]
  refine (div13 _ _ (by omega) (by omega) (by omega) _).mono ?_
  rintro e w' ⟨rfl, rfl⟩
  rw [HC.out]
  go_wp2_with fail
  rw [HA.out, HT1.out, HW1.out, HB.out, HW2.out]
  refine (year14 b y g (by omega) (by omega) HY.out HG.out _).mono ?_
  rintro e w' ⟨rfl, rfl⟩
  go_wp2
  refine bodyPost_ret (results_cell_row rfl _ _ w.heap.size 28 _ (0, 0) _ rfl (heap_alloc_new _ _) Try.underlying28 rfl (by kernel_rfl)) rfl ?_
  exact ⟨⟨_, rfl⟩, by repeat (first | exact Grown.refl _ | apply Grown.drew | apply Grown.alloc)⟩

/-- The same by the plain functions. -/
theorem date_at (k : Nat) (D : Int) (hD : D = (k : Int) + 1721120) (h0 : 578041 ≤ k) (h1 : k ≤ 10000000) (hm : mon k = 9) (w : World) :
    Calls Try.prog 9 #[.int .i64 D] w fun e w' => (∃ yy, e = .returned (.agg #[.int .i64 yy, .int .i64 12, .int .i64 (dom k)])) ∧ Grown w w' := by
  have ea : ((k1 k : Nat) : Int) = (k : Int) - (k : Int) / 146097 * 146097 := by unfold k1; omega
  have ec : ((cen k : Nat) : Int) = (4 * (k1 k : Int) + 3) / 146097 := by unfold cen; omega
  have ek : ((k2 k : Nat) : Int) = (k1 k : Int) - (cen k : Int) * 36524 := by unfold k2; omega
  have ey : ((yr k : Nat) : Int) = (4 * (k2 k : Int) + 3) / 1461 := by unfold yr; omega
  have eg : ((doy k : Nat) : Int) = (k2 k : Int) - 1461 * (yr k : Int) / 4 := by unfold doy; omega
  have em : (5 * ((k2 k : Int) - 1461 * (yr k : Int) / 4) + 2) / 153 = 9 := by
    rw [← eg]
    unfold mon at hm
    omega
  have ed : ((dom k : Nat) : Int) = (k2 k : Int) - 1461 * (yr k : Int) / 4 - 275 + 1 := by
    rw [← eg]
    unfold dom
    rw [hm]
    unfold mon at hm
    omega
  rw [ed]
  exact date9 D k _ _ _ _ _ _ (by omega) (by omega) (by omega) rfl ea.symm ec.symm ek.symm ey.symm rfl em w
end Go.Proofs.Qxb6613046a.Fl

/- The proof of 'Rows.FnLastMeanWinterSolsticeRoundTripFromItsSolsticeDaySaid', on the frame that the seat's shell gives; the walk is filled. -/
import Derived.Test.Qxb6613046aRows
import Derived.WalkKit
import Derived.ProofKit
import Derived.OpenShut
import Derived.ShutString
import Derived.Test.Qxb6613046aWalks
namespace Go.Proofs.Qxb6613046a.fnLastMeanWinterSolsticeRoundTripFromItsSolsticeDay
open Go.ChangeShapes Go.WideShapes Go.ChangeAt Go.RowKit
open Go.ChangeMaps (open_string shut_string)
set_option linter.unusedVariables false      -- a walk need not use every 'w<i>' (that an integer argument fits its kind)

theorem own : ownKnob Try.prog.godebug = none := by kernel_rfl

open Go.Proofs.Qxb6613046a.Fl in
set_option maxHeartbeats 1000000 in
theorem walk (a0 : Int) (w0 : (Lit.int .i64 a0).wf = true) (w : World) :
    Calls Try.prog 3 #[.int .i64 a0] w fun e w' => e = .returned (.bool true) ∧ Grown w w' := by
  by_cases c1 : a0 < -16384
  · have d1 : decide (a0 < -16384) = true := decide_eq_true c1
    go_enter Try.func3, Try.ntmps3
    go_wp2
    go_ret
    exact ⟨rfl, Grown.refl _⟩
  have d1 : decide (a0 < -16384) = false := decide_eq_false c1
  by_cases c2 : 16384 < a0
  · have d2 : decide (16384 < a0) = true := decide_eq_true c2
    go_enter Try.func3, Try.ntmps3
    go_wp2
    go_ret
    exact ⟨rfl, Grown.refl _⟩
  have d2 : decide (16384 < a0) = false := decide_eq_false c2
  obtain ⟨D, r, he, hr1, hr2⟩ := edge a0 (by omega) (by omega)
  obtain ⟨r10, V10, ⟨r9, hmean, c10⟩, n10, l10, u10, hday⟩ := day_law (24 * a0 + 18) (by omega) (by omega)
  have e10 := ari .add _ _ _ c10
  have Hmean : Hid (Mean (24 * a0 + 18) r9) := hmean
  have N10 : Hid (Num r10 V10) := n10
  have L10 : Hid (-(1073741824 * U) ≤ V10) := l10
  have U10 : Hid (V10 ≤ 1073741824 * U) := u10
  have HD : Hid (∀ d : Int, d * U ≤ V10 → V10 < d * U + U → d = D ∧ -8500000 ≤ d ∧ d ≤ 8500000) := fun d k1 k2 => by
    obtain ⟨q1, q2⟩ := hday d k1 k2
    exact ⟨day_exact a0 d D r he hr1 hr2 q1 q2, day_bounds a0 d (by omega) (by omega) q1 q2⟩
  have HT : Hid (-8500000 ≤ D → D ≤ 8500000 → Last D a0 ∧ Last (D - 1) (a0 - 1)) := fun k1 k2 => by
    obtain ⟨f1, hl1, _, _, p1, p2⟩ := last_law D (by omega) (by omega)
    obtain ⟨f2, hl2, _, _, p3, p4⟩ := last_law (D - 1) (by omega) (by omega)
    obtain ⟨e1, e2⟩ := trip a0 D r f1 f2 (by omega) (by omega) he hr1 hr2 p1 p2 p3 p4
    rw [e1] at hl1
    rw [e2] at hl2
    exact ⟨hl1, hl2⟩
  clear hmean c10 n10 l10 u10 hday he hr1 hr2
  go_enter Try.func3, Try.ntmps3
  go_wp2_with (first | (go_at_call 6; refine (term6 _ (by omega) (by omega) _).mono ?_; rintro e w' ⟨rfl, rfl⟩) | (go_at_call 5; refine (mean5 _ r9 Hmean.out _).mono ?_; rintro e w' ⟨rfl, rfl⟩))
  refine (floor7 r10 V10 N10.out L10.out U10.out _).mono ?_
  rintro e w' ⟨⟨d, rfl, k1, k2⟩, rfl⟩
  obtain ⟨rfl, b1, b2⟩ := HD.out d k1 k2
  obtain ⟨hl1, hl2⟩ := HT.out b1 b2
  have H1 : Hid (Last d a0) := hl1
  have H2 : Hid (Last (d - 1) (a0 - 1)) := hl2
  clear hl1 hl2 k1 k2 HD HT
  go_wp2_with fail
  refine (last8 d a0 H1.out _).mono ?_
  rintro e w2 ⟨rfl, rfl⟩
  go_wp2_with fail
  refine (last8 (d - 1) (a0 - 1) H2.out _).mono ?_
  rintro e w3 ⟨rfl, rfl⟩
  go_wp2
  go_ret
  exact ⟨rfl, Grown.refl _⟩

/-! ### THE ROW's STEP: WRITTEN OUT: LEAVE IT -/
set_option maxRecDepth 100000 in
theorem lifted (os : Os) (started : os.Started) (H : Type) (enc : TypeId × Value → H) :
    ReturnsInHanded {} Try.checked os 3 .any (Rows.fnLastMeanWinterSolsticeRoundTripFromItsSolsticeDaySpec.pre6 enc Try.prog Try.f3 Rows.fnLastMeanWinterSolsticeRoundTripFromItsSolsticeDayRow.domain false) (Rows.fnLastMeanWinterSolsticeRoundTripFromItsSolsticeDaySpec.post enc Try.prog Try.f3 false true false false) := by
  refine returnsInHanded_of_change (C := Try.checked) own started (by kernel_rfl) Try.func3
    (ChangeSpec.witness6 (enc := enc) (C := Try.checked) false ⟨#[], #[.int .i64 0], []⟩ 8 (by kernel_rfl) (by kernel_rfl) (by kernel_rfl) (by kernel_rfl)) ?_
  intro W base args ds gs before hval0 hW hcnd _
  have hval : ∀ (j : Nat) t v, Try.f3.params[j]? = some t → args[j]? = some v → Value.okWide Try.prog W .any base t v := hval0
  have hW' := hW
  obtain ⟨p, q, hA0, hV, rfl, hfz, hnd⟩ := hW
  have hA : DataW.TrodAll enc Try.prog W 0 (fun _ => true) true Try.f3.params.toList args.toList ds p := hA0
  rw [Try.params3] at hA hval
  obtain ⟨v0, vs0, d0, ds0, p0, q0, hargs, rfl, rfl, h0, r0⟩ := trodAll_cons hA
  obtain ⟨rfl, rfl, rfl⟩ := trodAll_nil r0
  obtain rfl : args = #[v0] := by cases args; simp_all
  obtain ⟨rfl, rfl⟩ := trodVars_none hV
  obtain ⟨a0, rfl, rfl, rfl, w0⟩ := open_int Try.underlying3 (hval 0 3 v0 rfl rfl) h0
  clear hA0 hval0
  simp only [List.append_nil] at hW'
  refine (walk a0 w0 W).mono fun e W' ⟨he, hg⟩ => ?_
  subst he
  exact ⟨_, rfl, post_of_same (pa := []) (pv := []) hW' (fun _ _ _ => (trodAll_cons_mk (shut_bool Try.underlying4 _) trodAll_mk0)) (fun sp _ => (trodAll_cons_mk (shut_int Try.underlying3 w0) trodAll_mk0)) (fun _ _ => rfl) rfl
    (hg.frame _) hg.2.1 (ok_one (by kernel_rfl) rfl (okWide_bool_mk Try.underlying4 _))⟩

theorem over : Rows.fnLastMeanWinterSolsticeRoundTripFromItsSolsticeDayRow.holds Try.pinned (OpenSpec.ofChange Rows.fnLastMeanWinterSolsticeRoundTripFromItsSolsticeDaySpec) :=
  OpenClaim.holds_of_wide 3 Try.f3 rfl rfl rfl rfl rfl rfl rfl ⟨rfl, rfl, rfl, rfl, rfl⟩ rfl rfl rfl rfl rfl (by kernel_rfl) Try.func3 (by kernel_rfl)
    (of_decide_eq_true (by kernel_rfl)) (by unfold Func.isWrapper; first | (rw [if_pos (by decide +kernel)]; kernel_rfl) | (rw [if_neg (by decide +kernel)]; exact ⟨rfl, rfl⟩))
    (fun os started H enc _ => lifted os started H enc)

/-- ████ THE STATEMENT ████ -/
theorem proved : Rows.FnLastMeanWinterSolsticeRoundTripFromItsSolsticeDaySaid :=
  over
end Go.Proofs.Qxb6613046a.fnLastMeanWinterSolsticeRoundTripFromItsSolsticeDay

/- The proof of 'Rows.FnLastMeanWinterSolsticeFallsInTheGregorianDecemberBeforeSaid', on the frame that the seat's shell gives; the walk is filled. -/
import Derived.Test.Qxb6613046aRows
import Derived.WalkKit
import Derived.ProofKit
import Derived.OpenShut
import Derived.ShutString
import Derived.Test.Qxb6613046aDates
namespace Go.Proofs.Qxb6613046a.fnLastMeanWinterSolsticeFallsInTheGregorianDecemberBefore
open Go.ChangeShapes Go.WideShapes Go.ChangeAt Go.RowKit
open Go.ChangeMaps (open_string shut_string)
set_option linter.unusedVariables false      -- a walk need not use every 'w<i>' (that an integer argument fits its kind)

theorem own : ownKnob Try.prog.godebug = none := by kernel_rfl

open Go.Proofs.Qxb6613046a.Fl in
set_option maxHeartbeats 1000000 in
theorem walk (a0 : Int) (w0 : (Lit.int .i64 a0).wf = true) (w : World) :
    Calls Try.prog 4 #[.int .i64 a0] w fun e w' => e = .returned (.bool true) ∧ Grown w w' := by
  by_cases c1 : a0 < 2299600
  · have d1 : decide (a0 < 2299600) = true := decide_eq_true c1
    go_enter Try.func4, Try.ntmps4
    go_wp2
    go_ret
    exact ⟨rfl, Grown.refl _⟩
  have d1 : decide (a0 < 2299600) = false := decide_eq_false c1
  by_cases c2 : 5373484 < a0
  · have d2 : decide (5373484 < a0) = true := decide_eq_true c2
    go_enter Try.func4, Try.ntmps4
    go_wp2
    go_ret
    exact ⟨rfl, Grown.refl _⟩
  have d2 : decide (5373484 < a0) = false := decide_eq_false c2
  obtain ⟨f, hlast, _, _, p1, p2⟩ := last_law a0 (by omega) (by omega)
  obtain ⟨g1, g2⟩ := (named a0 f 0 0 (by omega) (by omega) p1 p2).1
  obtain ⟨D, r, he, hr1, hr2⟩ := edge f (by omega) (by omega)
  obtain ⟨x1, x2⟩ := (named a0 f D r (by omega) (by omega) p1 p2).2 he hr1 hr2
  obtain ⟨k, hD, k1, k2, k3, k4, k5⟩ := december f D r g1 g2 he hr1 hr2
  obtain ⟨r10, V10, ⟨r9, hmean, c10⟩, n10, l10, u10, hday⟩ := day_law (24 * f + 18) (by omega) (by omega)
  have e10 := ari .add _ _ _ c10
  have Hlast : Hid (Last a0 f) := hlast
  have Hmean : Hid (Mean (24 * f + 18) r9) := hmean
  have N10 : Hid (Num r10 V10) := n10
  have L10 : Hid (-(1073741824 * U) ≤ V10) := l10
  have U10 : Hid (V10 ≤ 1073741824 * U) := u10
  have HD : Hid (∀ d : Int, d * U ≤ V10 → V10 < d * U + U → d = D) := fun d q1 q2 => by
    obtain ⟨q1, q2⟩ := hday d q1 q2
    exact day_exact f d D r he hr1 hr2 q1 q2
  have HK : Hid (D = (k : Int) + 1721120) := hD
  have HM : Hid (mon k = 9) := k3
  have b1 : decide (-1 ≤ a0 - D) = true := decide_eq_true x1
  have b2 : decide (a0 - D ≤ 366) = true := decide_eq_true x2
  have bD : -10000000 ≤ D ∧ D ≤ 20000000 := by omega
  clear hlast hmean c10 n10 l10 u10 hday he hr1 hr2 hD k3 p1 p2
  go_enter Try.func4, Try.ntmps4
  go_wp2_with (first | (go_at_call 8; refine (last8 _ f Hlast.out _).mono ?_; rintro e w' ⟨rfl, rfl⟩) | (go_at_call 6; refine (term6 _ (by omega) (by omega) _).mono ?_; rintro e w' ⟨rfl, rfl⟩) | (go_at_call 5; refine (mean5 _ r9 Hmean.out _).mono ?_; rintro e w' ⟨rfl, rfl⟩))
  refine (floor7 r10 V10 N10.out L10.out U10.out _).mono ?_
  rintro e w' ⟨⟨d, rfl, q1, q2⟩, rfl⟩
  obtain rfl := HD.out d q1 q2
  clear q1 q2 HD
  go_wp2_with fail
  refine (date_at k d HK.out k2 k1 HM.out _).mono ?_
  rintro e w2 ⟨⟨yy, rfl⟩, hg⟩
  have HG : Hid (Grown w' w2) := hg
  obtain ⟨dd, hdd⟩ : ∃ dd : Int, ((dom k : Nat) : Int) = dd := ⟨_, rfl⟩
  have t1 : decide (15 ≤ dd) = true := decide_eq_true (by omega)
  have t2 : decide (dd ≤ 25) = true := decide_eq_true (by omega)
  rw [hdd]
  clear hg L10 U10 N10 Hlast Hmean HM HK e10 hdd k4 k5 k1 k2 g1 g2
  go_wp2
  go_ret
  exact ⟨rfl, HG.out.alloc _ _⟩

/-! ### THE ROW's STEP: WRITTEN OUT: LEAVE IT -/
set_option maxRecDepth 100000 in
theorem lifted (os : Os) (started : os.Started) (H : Type) (enc : TypeId × Value → H) :
    ReturnsInHanded {} Try.checked os 4 .any (Rows.fnLastMeanWinterSolsticeFallsInTheGregorianDecemberBeforeSpec.pre6 enc Try.prog Try.f4 Rows.fnLastMeanWinterSolsticeFallsInTheGregorianDecemberBeforeRow.domain false) (Rows.fnLastMeanWinterSolsticeFallsInTheGregorianDecemberBeforeSpec.post enc Try.prog Try.f4 false true false false) := by
  refine returnsInHanded_of_change (C := Try.checked) own started (by kernel_rfl) Try.func4
    (ChangeSpec.witness6 (enc := enc) (C := Try.checked) false ⟨#[], #[.int .i64 0], []⟩ 8 (by kernel_rfl) (by kernel_rfl) (by kernel_rfl) (by kernel_rfl)) ?_
  intro W base args ds gs before hval0 hW hcnd _
  have hval : ∀ (j : Nat) t v, Try.f4.params[j]? = some t → args[j]? = some v → Value.okWide Try.prog W .any base t v := hval0
  have hW' := hW
  obtain ⟨p, q, hA0, hV, rfl, hfz, hnd⟩ := hW
  have hA : DataW.TrodAll enc Try.prog W 0 (fun _ => true) true Try.f4.params.toList args.toList ds p := hA0
  rw [Try.params4] at hA hval
  obtain ⟨v0, vs0, d0, ds0, p0, q0, hargs, rfl, rfl, h0, r0⟩ := trodAll_cons hA
  obtain ⟨rfl, rfl, rfl⟩ := trodAll_nil r0
  obtain rfl : args = #[v0] := by cases args; simp_all
  obtain ⟨rfl, rfl⟩ := trodVars_none hV
  obtain ⟨a0, rfl, rfl, rfl, w0⟩ := open_int Try.underlying3 (hval 0 3 v0 rfl rfl) h0
  clear hA0 hval0
  simp only [List.append_nil] at hW'
  refine (walk a0 w0 W).mono fun e W' ⟨he, hg⟩ => ?_
  subst he
  exact ⟨_, rfl, post_of_same (pa := []) (pv := []) hW' (fun _ _ _ => (trodAll_cons_mk (shut_bool Try.underlying4 _) trodAll_mk0)) (fun sp _ => (trodAll_cons_mk (shut_int Try.underlying3 w0) trodAll_mk0)) (fun _ _ => rfl) rfl
    (hg.frame _) hg.2.1 (ok_one (by kernel_rfl) rfl (okWide_bool_mk Try.underlying4 _))⟩

theorem over : Rows.fnLastMeanWinterSolsticeFallsInTheGregorianDecemberBeforeRow.holds Try.pinned (OpenSpec.ofChange Rows.fnLastMeanWinterSolsticeFallsInTheGregorianDecemberBeforeSpec) :=
  OpenClaim.holds_of_wide 4 Try.f4 rfl rfl rfl rfl rfl rfl rfl ⟨rfl, rfl, rfl, rfl, rfl⟩ rfl rfl rfl rfl rfl (by kernel_rfl) Try.func4 (by kernel_rfl)
    (of_decide_eq_true (by kernel_rfl)) (by unfold Func.isWrapper; first | (rw [if_pos (by decide +kernel)]; kernel_rfl) | (rw [if_neg (by decide +kernel)]; exact ⟨rfl, rfl⟩))
    (fun os started H enc _ => lifted os started H enc)

/-- ████ THE STATEMENT ████ -/
theorem proved : Rows.FnLastMeanWinterSolsticeFallsInTheGregorianDecemberBeforeSaid :=
  over
end Go.Proofs.Qxb6613046a.fnLastMeanWinterSolsticeFallsInTheGregorianDecemberBefore

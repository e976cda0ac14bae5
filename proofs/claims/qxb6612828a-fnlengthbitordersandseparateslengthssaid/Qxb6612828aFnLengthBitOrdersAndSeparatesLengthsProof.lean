/- The proof of 'Rows.FnLengthBitOrdersAndSeparatesLengthsSaid', on the frame that the seat's shell gives; the walk is filled. -/
import Derived.Test.Qxb6612828aRows
import Derived.WalkKit
import Derived.ProofKit
import Derived.OpenShut
import Derived.ShutString
import Derived.WalkLawsBesides
import Derived.Test.Qxb6612828aBits
namespace Go.Proofs.Qxb6612828a.fnLengthBitOrdersAndSeparatesLengths
open Go.ChangeShapes Go.WideShapes Go.ChangeAt Go.RowKit
open Go.ChangeMaps (open_string shut_string)
set_option linter.unusedVariables false      -- a walk need not use every 'w<i>' (that an integer argument fits its kind)

theorem own : ownKnob Try.prog.godebug = none := by kernel_rfl

/-! ### STEP 1: THE WALK: the Go text returns true. 'Grown w w'': the world has at most new blocks (Derived/RowKit3.lean). Part the cases AHEAD of 'go_enter' where a test parts the walk; take each callee by a contract of your own. -/
set_option maxHeartbeats 400000 in
theorem walk_in (n m : Int) (w : World) (hn : 0 ≤ n) (hm : 0 ≤ m) :
    Calls Try.prog 3 #[.int .i64 n, .int .i64 m] w fun e w' => e = .returned (.bool true) ∧ Grown w w' := by
  have b1 := lbit_bd n
  have b2 := lbit_bd m
  have c1 : (lbit n != 0) = true := by rw [bne_iff_ne]; omega
  have c2 := lbit_and n
  rcases Int.lt_trichotomy n m with h | h | h
  · have d1 : (n == m) = false := beq_eq_false_iff_ne.2 (by omega)
    by_cases h6 : n < 63
    · have hl := lbit_lt n m hn h h6
      have d2 : (lbit n == lbit m) = false := beq_eq_false_iff_ne.2 (by omega)
      have d3 : decide (63 ≤ n) = false := by simp; omega
      go_enter Try.func3, Try.ntmps3
      go_wp2_with fail
      refine (zlb _ _ hn).mono ?_; rintro e w1 ⟨rfl, rfl⟩
      go_wp2_with fail
      refine (zlb _ _ hm).mono ?_; rintro e w1 ⟨rfl, rfl⟩
      go_wp2_with fail
      go_ret
      exact ⟨rfl, Grown.refl _⟩
    · have he := lbit_top n m (by omega) (by omega)
      have d2 : (lbit n == lbit m) = true := beq_iff_eq.2 he
      have d4 : decide (lbit n < lbit m) = false := decide_eq_false (by omega)
      have d6 : decide (n < 63) = false := decide_eq_false (by omega)
      clear he
      go_enter Try.func3, Try.ntmps3
      go_wp2_with fail
      refine (zlb _ _ hn).mono ?_; rintro e w1 ⟨rfl, rfl⟩
      go_wp2_with fail
      refine (zlb _ _ hm).mono ?_; rintro e w1 ⟨rfl, rfl⟩
      go_wp2_with fail
      go_ret
      exact ⟨rfl, Grown.refl _⟩
  · subst h
    go_enter Try.func3, Try.ntmps3
    go_wp2_with fail
    refine (zlb _ _ hn).mono ?_; rintro e w1 ⟨rfl, rfl⟩
    go_wp2_with fail
    refine (zlb _ _ hm).mono ?_; rintro e w1 ⟨rfl, rfl⟩
    go_wp2_with fail
    go_ret
    exact ⟨rfl, Grown.refl _⟩
  · have d1 : (n == m) = false := beq_eq_false_iff_ne.2 (by omega)
    have d5 : ¬ n < m := by omega
    by_cases h6 : m < 63
    · have hl := lbit_lt m n hm h h6
      have d2 : (lbit n == lbit m) = false := beq_eq_false_iff_ne.2 (by omega)
      have d4 : decide (lbit n < lbit m) = false := decide_eq_false (by omega)
      have d3 : decide (63 ≤ m) = false := by simp; omega
      by_cases h7 : n < 63
      all_goals
        go_enter Try.func3, Try.ntmps3
        go_wp2_with fail
        refine (zlb _ _ hn).mono ?_; rintro e w1 ⟨rfl, rfl⟩
        go_wp2_with fail
        refine (zlb _ _ hm).mono ?_; rintro e w1 ⟨rfl, rfl⟩
        go_wp2_with fail
        go_ret
        exact ⟨rfl, Grown.refl _⟩
    · have he := lbit_top n m (by omega) (by omega)
      have d2 : (lbit n == lbit m) = true := beq_iff_eq.2 he
      have d4 : decide (lbit n < lbit m) = false := decide_eq_false (by omega)
      have d6 : decide (n < 63) = false := decide_eq_false (by omega)
      clear he
      go_enter Try.func3, Try.ntmps3
      go_wp2_with fail
      refine (zlb _ _ hn).mono ?_; rintro e w1 ⟨rfl, rfl⟩
      go_wp2_with fail
      refine (zlb _ _ hm).mono ?_; rintro e w1 ⟨rfl, rfl⟩
      go_wp2_with fail
      go_ret
      exact ⟨rfl, Grown.refl _⟩
set_option maxHeartbeats 400000 in
theorem walk_out (n m : Int) (w : World) (h : n < 0 ∨ m < 0) :
    Calls Try.prog 3 #[.int .i64 n, .int .i64 m] w fun e w' => e = .returned (.bool true) ∧ Grown w w' := by
  by_cases hn : n < 0
  · go_enter Try.func3, Try.ntmps3
    go_wp2_with fail
    go_ret
    exact ⟨rfl, Grown.refl _⟩
  · have hm : m < 0 := by omega
    go_enter Try.func3, Try.ntmps3
    go_wp2_with fail
    go_ret
    exact ⟨rfl, Grown.refl _⟩

theorem walk (a0 : Int) (a1 : Int) (w0 : (Lit.int .i64 a0).wf = true) (w1 : (Lit.int .i64 a1).wf = true) (w : World) :
    Calls Try.prog 3 #[.int .i64 a0, .int .i64 a1] w fun e w' => e = .returned (.bool true) ∧ Grown w w' := by
  by_cases h : a0 < 0 ∨ a1 < 0
  · exact walk_out a0 a1 w h
  · exact walk_in a0 a1 w (by omega) (by omega)

/-! ### THE ROW's STEP: WRITTEN OUT: LEAVE IT -/
set_option maxRecDepth 100000 in
theorem lifted (os : Os) (started : os.Started) (H : Type) (enc : TypeId × Value → H) :
    ReturnsInHanded {} Try.checked os 3 .any (Rows.fnLengthBitOrdersAndSeparatesLengthsSpec.pre6 enc Try.prog Try.f3 Rows.fnLengthBitOrdersAndSeparatesLengthsRow.domain false) (Rows.fnLengthBitOrdersAndSeparatesLengthsSpec.post enc Try.prog Try.f3 false true false false) := by
  refine returnsInHanded_of_change (C := Try.checked) own started (by kernel_rfl) Try.func3
    (ChangeSpec.witness6 (enc := enc) (C := Try.checked) false ⟨#[], #[.int .i64 0, .int .i64 0], []⟩ 8 (by kernel_rfl) (by kernel_rfl) (by kernel_rfl) (by kernel_rfl)) ?_
  intro W base args ds gs before hval0 hW hcnd _
  have hval : ∀ (j : Nat) t v, Try.f3.params[j]? = some t → args[j]? = some v → Value.okWide Try.prog W .any base t v := hval0
  have hW' := hW
  obtain ⟨p, q, hA0, hV, rfl, hfz, hnd⟩ := hW
  have hA : DataW.TrodAll enc Try.prog W 0 (fun _ => true) true Try.f3.params.toList args.toList ds p := hA0
  rw [Try.params3] at hA hval
  obtain ⟨v0, vs0, d0, ds0, p0, q0, hargs, rfl, rfl, h0, r0⟩ := trodAll_cons hA
  obtain ⟨v1, vs1, d1, ds1, p1, q1, rfl, rfl, rfl, h1, r1⟩ := trodAll_cons r0
  obtain ⟨rfl, rfl, rfl⟩ := trodAll_nil r1
  obtain rfl : args = #[v0, v1] := by cases args; simp_all
  obtain ⟨rfl, rfl⟩ := trodVars_none hV
  obtain ⟨a0, rfl, rfl, rfl, w0⟩ := open_int Try.underlying3 (hval 0 3 v0 rfl rfl) h0
  obtain ⟨a1, rfl, rfl, rfl, w1⟩ := open_int Try.underlying3 (hval 1 3 v1 rfl rfl) h1
  clear hA0 hval0
  simp only [List.append_nil] at hW'
  refine (walk a0 a1 w0 w1 W).mono fun e W' ⟨he, hg⟩ => ?_
  subst he
  exact ⟨_, rfl, post_of_same (pa := []) (pv := []) hW' (fun _ _ _ => (trodAll_cons_mk (shut_bool Try.underlying4 _) trodAll_mk0)) (fun sp _ => (trodAll_cons_mk (shut_int Try.underlying3 w0) (trodAll_cons_mk (shut_int Try.underlying3 w1) trodAll_mk0))) (fun _ _ => rfl) rfl
    (hg.frame _) hg.2.1 (ok_one (by kernel_rfl) rfl (okWide_bool_mk Try.underlying4 _))⟩

theorem over : Rows.fnLengthBitOrdersAndSeparatesLengthsRow.holds Try.pinned (OpenSpec.ofChange Rows.fnLengthBitOrdersAndSeparatesLengthsSpec) :=
  OpenClaim.holds_of_wide 3 Try.f3 rfl rfl rfl rfl rfl rfl rfl ⟨rfl, rfl, rfl, rfl, rfl⟩ rfl rfl rfl rfl rfl (by kernel_rfl) Try.func3 (by kernel_rfl)
    (of_decide_eq_true (by kernel_rfl)) (by unfold Func.isWrapper; first | (rw [if_pos (by decide +kernel)]; kernel_rfl) | (rw [if_neg (by decide +kernel)]; exact ⟨rfl, rfl⟩))
    (fun os started H enc _ => lifted os started H enc)

/-- ████ THE STATEMENT ████ -/
theorem proved : Rows.FnLengthBitOrdersAndSeparatesLengthsSaid :=
  over
end Go.Proofs.Qxb6612828a.fnLengthBitOrdersAndSeparatesLengths

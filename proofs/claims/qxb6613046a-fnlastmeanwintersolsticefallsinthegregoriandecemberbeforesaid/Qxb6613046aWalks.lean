/- The walks of the program's own functions on the two laws' roads, over the plain words. -/
import Derived.Test.Qxb6613046aRows
import Derived.Test.Qxb6613046aTrip
import Derived.WalkKit
import Derived.WalkSpells
import Derived.WalkLawsBesides
import Derived.ProofKit
namespace Go.Proofs.Qxb6613046a.Fl
open Go.RowKit Ieee

theorem ari (op : BinOp) (x y r : Nat) (h : floatBits op .f64 x y = some r) (w : World) : (binOp op 22 (.float .f64 x) (.float .f64 y)).run Try.prog w = .ok (.float .f64 r) w := run_float_arith w op 22 .f64 x y r h

set_option maxHeartbeats 400000 in
theorem mean10 (n : Int) (r9 : Nat) (h : Mean n r9) (w : World) : Calls Try.prog 10 #[.int .i64 n] w fun e w' => e = .returned (.float .f64 r9) ∧ w' = w := by
  obtain ⟨r4, r5, r6, r7, r8, c4, c5, c6, c7, c8, c9⟩ := h
  have e4 := ari .mul _ _ _ c4
  have e5 := ari .add _ _ _ c5
  have e6 := ari .sub _ _ _ c6
  have e7 := ari .mul _ _ _ c7
  have e8 := ari .quo _ _ _ c8
  have e9 := ari .add _ _ _ c9
  clear c4 c5 c6 c7 c8 c9
  go_enter Try.func10, Try.ntmps10
  go_wp2
  go_ret
  exact ⟨rfl, rfl⟩

set_option maxHeartbeats 400000 in
theorem mean5 (n : Int) (r9 : Nat) (h : Mean n r9) (w : World) : Calls Try.prog 5 #[.int .i64 n] w fun e w' => e = .returned (.float .f64 r9) ∧ w' = w := by
  go_enter Try.func5, Try.ntmps5
  go_wp2_with (go_at_call 10; refine (mean10 _ r9 h _).mono ?_; rintro e w' ⟨rfl, rfl⟩)
  go_ret
  exact ⟨rfl, rfl⟩

set_option maxHeartbeats 400000 in
theorem term11 (s : Int) (h1 : -100000 ≤ s) (h2 : s ≤ 100000) (w : World) : Calls Try.prog 11 #[.int .i64 s] w fun e w' => e = .returned (.int .i64 (24 * s + 18)) ∧ w' = w := by
  go_enter Try.func11, Try.ntmps11
  go_wp2
  go_ret
  exact ⟨rfl, rfl⟩

set_option maxHeartbeats 400000 in
theorem term6 (s : Int) (h1 : -100000 ≤ s) (h2 : s ≤ 100000) (w : World) : Calls Try.prog 6 #[.int .i64 s] w fun e w' => e = .returned (.int .i64 (24 * s + 18)) ∧ w' = w := by
  go_enter Try.func6, Try.ntmps6
  go_wp2_with (go_at_call 11; refine (term11 _ h1 h2 _).mono ?_; rintro e w' ⟨rfl, rfl⟩)
  go_ret
  exact ⟨rfl, rfl⟩

/-- zzFloor: the greatest whole number that is not above x. -/
theorem cut_floor {t V : Int} (h : Cut t V) : if V < t * U then (t - 1) * U ≤ V ∧ V < (t - 1) * U + U else t * U ≤ V ∧ V < t * U + U := by
  have hU := U_pos
  split
  · rename_i hlt
    have e : (t - 1) * U = t * U - U := by rw [Int.sub_mul, Int.one_mul]
    rw [e]
    by_cases h0 : 0 ≤ V
    · have := h.1 h0; omega
    · have := h.2 (by omega); omega
  · rename_i hge
    by_cases h0 : 0 ≤ V
    · have := h.1 h0; omega
    · have := h.2 (by omega); omega

set_option maxHeartbeats 400000 in
theorem floor7 (x : Nat) (V : Int) (hx : Num x V) (h1 : -(1073741824 * U) ≤ V) (h2 : V ≤ 1073741824 * U) (w : World) :
    Calls Try.prog 7 #[.float .f64 x] w fun e w' => (∃ d : Int, e = .returned (.int .i64 d) ∧ d * U ≤ V ∧ V < d * U + U) ∧ w' = w := by
  obtain ⟨t, ht, hcut, b1, b2⟩ := to_int hx h1 h2
  have hf := cut_floor hcut
  have hc := fun w => run_convert_float_int (P := Try.prog) w 22 3 .f64 .i64 x t (by rw [Try.underlying22]; rfl) Try.underlying3 ht
  have hg : (FloatKind.f64.format.order (floatOfInt .f64 t) x == some .gt) = decide (V < t * U) := gt_law (of_int t (by omega) (by omega)) hx
  have HF : Hid (if V < t * U then (t - 1) * U ≤ V ∧ V < (t - 1) * U + U else t * U ≤ V ∧ V < t * U + U) := hf
  clear hf hcut ht hx h1 h2
  by_cases hlt : V < t * U
  · have hd : decide (V < t * U) = true := decide_eq_true hlt
    rw [hd] at hg
    have HL : Hid (V < t * U) := hlt
    clear hlt hd
    go_enter Try.func7, Try.ntmps7
    go_wp2
    go_ret
    have hh := HF.out
    rw [if_pos HL.out] at hh
    exact ⟨⟨t - 1, rfl, hh⟩, rfl⟩
  · have hd : decide (V < t * U) = false := decide_eq_false hlt
    rw [hd] at hg
    have HL : Hid (¬ V < t * U) := hlt
    clear hlt hd
    go_enter Try.func7, Try.ntmps7
    go_wp2
    go_ret
    have hh := HF.out
    rw [if_neg (Int.not_lt.2 HL.out)] at hh
    exact ⟨⟨t, rfl, hh⟩, rfl⟩

theorem arch_run (x : Nat) (s : Bool) (m : Nat) (p : Int) (hd : FloatKind.f64.decode x = .number s m p) (w : World) :
    (Extern.MathFloor.toIntegral "math.archFloor" .down #[.float .f64 x]).run Try.prog w = .ok (.float .f64 (FloatKind.f64.encode ((Datum.number s m p).integral .down))) w := by
  have e : ∀ d : Datum, d = .number s m p → FloatKind.f64.decode x = d → (Extern.MathFloor.toIntegral "math.archFloor" .down #[.float .f64 x]).run Try.prog w = .ok (.float .f64 (FloatKind.f64.encode ((Datum.number s m p).integral .down))) w := by
    intro d h1 h2
    unfold Extern.MathFloor.toIntegral
    show (Sem.run Try.prog (Extern.MathFloor.toIntegral.match_1 (fun _ => Sem Value) (FloatKind.f64.decode x) _ _) w) = _
    rw [h2, h1]
    rfl
  exact e _ rfl hd

theorem arch16 (x : Nat) (hx : ∃ s m p, double.read x = .number s m p) (w : World) :
    (callFunc 16 #[.float .f64 x]).run Try.prog w = .ok (.value (.float .f64 (double.write ((double.read x).integral .down)))) w := by
  rw [run_callFunc_extern Try.func16 (by kernel_rfl) (by kernel_rfl) (by kernel_rfl) (e := Extern.MathFloor.toIntegral "math.archFloor" .down) (by kernel_rfl)]
  obtain ⟨s, m, p, hr⟩ := hx
  rw [arch_run x s m p hr w, hr]
  rfl

set_option maxHeartbeats 400000 in
theorem floor15 (x : Nat) (hx : ∃ s m p, double.read x = .number s m p) (w : World) :
    Calls Try.prog 15 #[.float .f64 x] w fun e w' => e = .returned (.float .f64 (double.write ((double.read x).integral .down))) ∧ w' = w := by
  have ha := arch16 x hx
  obtain ⟨y, hy⟩ : ∃ y, double.write ((double.read x).integral .down) = y := ⟨_, rfl⟩
  rw [hy] at ha ⊢
  clear hy hx
  go_enter Try.func15, Try.ntmps15
  go_wp2
  go_ret
  exact ⟨rfl, rfl⟩

set_option maxHeartbeats 400000 in
theorem last12 (d f : Int) (h : Last d f) (w : World) : Calls Try.prog 12 #[.int .i64 d] w fun e w' => e = .returned (.int .i64 f) ∧ w' = w := by
  obtain ⟨y2, m0, y3, q, c2, hm, c3, cq, hq, hf⟩ := h
  have e2 := ari .add _ _ _ c2
  have e3 := ari .sub _ _ _ c3
  have eq := ari .quo _ _ _ cq
  have hc := fun w => run_convert_float_int (P := Try.prog) w 22 3 .f64 .i64 _ f (by rw [Try.underlying22]; rfl) Try.underlying3 hf
  have Hq : Hid (∃ s m p, double.read q = .number s m p) := hq
  have Hm : Hid (Mean 18 m0) := hm
  clear c2 c3 cq hf hq hm
  go_enter Try.func12, Try.ntmps12
  go_wp2_with (first | (go_at_call 11; refine (term11 0 (by omega) (by omega) _).mono ?_; rintro e w' ⟨rfl, rfl⟩) | (go_at_call 10; refine (mean10 18 m0 Hm.out _).mono ?_; rintro e w' ⟨rfl, rfl⟩) | (go_at_call 15; refine (floor15 q Hq.out _).mono ?_; rintro e w' ⟨rfl, rfl⟩))
  go_ret
  exact ⟨rfl, rfl⟩

set_option maxHeartbeats 400000 in
theorem last8 (d f : Int) (h : Last d f) (w : World) : Calls Try.prog 8 #[.int .i64 d] w fun e w' => e = .returned (.int .i64 f) ∧ w' = w := by
  have H : Hid (Last d f) := h
  clear h
  go_enter Try.func8, Try.ntmps8
  go_wp2_with (go_at_call 12; refine (last12 d f H.out _).mono ?_; rintro e w' ⟨rfl, rfl⟩)
  go_ret
  exact ⟨rfl, rfl⟩
end Go.Proofs.Qxb6613046a.Fl

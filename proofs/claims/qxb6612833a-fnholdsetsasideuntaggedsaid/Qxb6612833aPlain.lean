/- The plain law of the run: from h0 to the last offset's hop. And the small functions of the laws' own file. -/
import Derived.Test.Qxb6612833aBuild
namespace Go.Proofs.Qxb6612833a
open Go.ChangeShapes Go.WideShapes Go.ChangeAt Go.RowKit

def mx (a b : Int) : Int := if b < a then a else b
def lastOf (ds : List Int) : Int := ds.foldl mx 0
theorem foldl_mx (ds : List Int) : ∀ a, a ≤ ds.foldl mx a ∧ (∀ d ∈ ds, d ≤ ds.foldl mx a) ∧ (ds.foldl mx a = a ∨ ds.foldl mx a ∈ ds) := by
  induction ds with
  | nil => intro a; simp
  | cons x t ih =>
    intro a
    obtain ⟨h1, h2, h3⟩ := ih (mx a x)
    have ha : a ≤ mx a x ∧ x ≤ mx a x ∧ (mx a x = a ∨ mx a x = x) := by unfold mx; split <;> omega
    refine ⟨by simp only [List.foldl_cons]; omega, ?_, ?_⟩
    · intro d hd
      simp only [List.foldl_cons]
      rcases List.mem_cons.1 hd with rfl | hd
      · omega
      · exact h2 d hd
    · simp only [List.foldl_cons]
      rcases h3 with h3 | h3
      · rcases ha.2.2 with e | e
        · left; omega
        · right; rw [h3, e]; exact List.mem_cons_self
      · right; exact List.mem_cons_of_mem _ h3
theorem lastOf_snoc (ds : List Int) (d : Int) : lastOf (ds ++ [d]) = mx (lastOf ds) d := by simp [lastOf]
theorem lastOf_bd (ds : List Int) (h : ∀ d ∈ ds, 1 ≤ d ∧ d ≤ 65536) : 0 ≤ lastOf ds ∧ lastOf ds ≤ 65536 := by
  obtain ⟨h1, h2, h3⟩ := foldl_mx ds 0
  unfold lastOf
  refine ⟨h1, ?_⟩
  rcases h3 with h3 | h3
  · omega
  · exact (h _ h3).2

/-- How many of the offsets lie beyond hop x. -/
def left (h0 : Int) (ds : List Int) (x : Int) : Int := ((ds.filter fun d => decide (x < h0 + d)).length : Nat)
theorem left_step (h0 : Int) (ds : List Int) (x : Int) : left h0 ds (x + 1) = left h0 ds x - cnt h0 ds (x + 1) := by
  unfold left cnt
  induction ds with
  | nil => simp
  | cons d t ih =>
    by_cases h1 : x < h0 + d
    · by_cases h2 : h0 + d = x + 1
      · have e1 : decide (x + 1 < h0 + d) = false := by simp; omega
        have e2 : (h0 + d == x + 1) = true := by simp [h2]
        simp only [List.filter_cons, h1, e1, e2, decide_true, if_true, List.length_cons]
        simp only [Bool.false_eq_true, if_false]
        omega
      · have e1 : decide (x + 1 < h0 + d) = true := by simp; omega
        have e2 : (h0 + d == x + 1) = false := beq_eq_false_iff_ne.2 h2
        simp only [List.filter_cons, h1, e1, e2, decide_true, if_true, List.length_cons, Bool.false_eq_true, if_false]
        omega
    · have e0 : decide (x < h0 + d) = false := by simp; omega
      have e1 : decide (x + 1 < h0 + d) = false := by simp; omega
      have e2 : (h0 + d == x + 1) = false := beq_eq_false_iff_ne.2 (by omega)
      simp only [List.filter_cons, e0, e1, e2, Bool.false_eq_true, if_false]
      exact ih
theorem left_all (h0 : Int) (ds : List Int) (h : ∀ d ∈ ds, 1 ≤ d ∧ d ≤ 65536) : left h0 ds h0 = ds.length := by
  unfold left
  rw [List.filter_eq_self.2]
  intro d hd
  have := h d hd
  simp; omega
theorem left_pos (h0 : Int) (ds : List Int) (x : Int) (hx : h0 ≤ x) (hl : x < h0 + lastOf ds) : 0 < left h0 ds x := by
  unfold left
  obtain ⟨h1, h2, h3⟩ := foldl_mx ds 0
  unfold lastOf at hl
  have hm : ds.foldl mx 0 ∈ ds := by
    rcases h3 with h3 | h3
    · omega
    · exact h3
  have : ds.foldl mx 0 ∈ ds.filter fun d => decide (x < h0 + d) := by
    rw [List.mem_filter]
    exact ⟨hm, by simp; omega⟩
  have := List.length_pos_of_mem this
  omega
theorem left_fin (h0 : Int) (ds : List Int) (x : Int) (hl : h0 + lastOf ds ≤ x) : left h0 ds x = 0 := by
  unfold left
  obtain ⟨h1, h2, h3⟩ := foldl_mx ds 0
  unfold lastOf at hl
  rw [List.filter_eq_nil_iff.2]
  · simp
  · intro d hd
    have := h2 d hd
    simp; omega
theorem left_bd (h0 : Int) (ds : List Int) (x : Int) : 0 ≤ left h0 ds x ∧ left h0 ds x ≤ ds.length := by
  unfold left
  have := List.length_filter_le (fun d => decide (x < h0 + d)) ds
  omega

theorem way (h0 : Int) (ds : List Int) (hh : 0 ≤ h0 ∧ h0 ≤ 1073741824) (hl : ds.length ≤ 4096) (h : ∀ d ∈ ds, 1 ≤ d ∧ d ≤ 65536) : Way (cnt h0 ds) (left h0 ds) h0 (h0 + lastOf ds) := by
  have b := lastOf_bd ds h
  refine ⟨by omega, hh.1, by omega, fun x _ _ => left_step h0 ds x, fun x h1 h2 => left_pos h0 ds x h1 h2, fun x _ _ => ?_, left_fin h0 ds _ (Int.le_refl _)⟩
  have := left_bd h0 ds x
  omega

def offOK (ds : List Int) : Bool := ds.all fun d => decide (1 ≤ d) && decide (d ≤ 65536)
theorem offOK_iff (ds : List Int) : offOK ds = true ↔ ∀ d ∈ ds, 1 ≤ d ∧ d ≤ 65536 := by
  unfold offOK; rw [List.all_eq_true]; constructor
  · intro h d hd; have := h d hd; simpa using this
  · intro h d hd; have := h d hd; simpa using this

theorem ret_int {k : IntKind} {a b : Int} (h : a = b) : Ending.returned (.int k a) = .returned (.int k b) := by rw [h]
theorem ret_bool {a b : Bool} (h : a = b) : Ending.returned (.bool a) = .returned (.bool b) := by rw [h]

set_option maxHeartbeats 1000000 in
theorem zzMax_any (a b : Int) (w : World) : Calls Try.prog 11 #[.int .i64 a, .int .i64 b] w fun e w' => e = .returned (.int .i64 (mx a b)) ∧ w' = w := by
  by_cases h : b < a
  · have e : mx a b = a := if_pos h
    rw [e]
    go_enter Try.func11, Try.ntmps11
    go_wp2
    go_ret
    exact ⟨rfl, rfl⟩
  · have e : mx a b = b := if_neg h
    rw [e]
    go_enter Try.func11, Try.ntmps11
    go_wp2
    go_ret
    exact ⟨rfl, rfl⟩

set_option maxHeartbeats 1000000 in
theorem netOffsetsOK_any (a : Option Addr) (c : Nat) (zs : List Int) (w : World) (r : RowA w a zs) (hl : zs.length ≤ 4096) :
    Calls Try.prog 8 #[.slice a zs.length c] w fun e w' => e = .returned (.bool (offOK zs)) ∧ w' = w := by
  go_enter Try.func8, Try.ntmps8
  go_wp2_with fail
  go_loop [3] (fun i => ∃ k : Nat, k ≤ zs.length ∧ i = .int .i64 k ∧ ∀ j, j < k → 1 ≤ el zs j ∧ el zs j ≤ 65536) (fun i => zs.length - (intOf i).toNat)
  case atStart => exact ⟨0, Nat.zero_le _, rfl, fun j h => by omega⟩
  case round =>
    obtain ⟨k, hk, rfl, hpos⟩ := hrel
    have HP : Hid _ := hpos
    clear hpos
    by_cases hlt : k < zs.length
    · obtain ⟨b, off, rfl, hbl, hcells⟩ := r (by omega)
      have hcell := hcells k hlt
      clear hcells
      by_cases hok : 1 ≤ el zs k ∧ el zs k ≤ 65536
      · obtain ⟨o1, o2⟩ := hok
        have d1 : decide (el zs k < 1) = false := decide_eq_false (by omega)
        have d2 : decide (65536 < el zs k) = false := decide_eq_false (by omega)
        go_wp2_with fail
        go_round
        case rel => exact ⟨k + 1, by omega, by go_num, fun j hj => by
          by_cases e : j = k
          · subst e; exact ⟨o1, o2⟩
          · exact HP.out j (by omega)⟩
        case measure => simp [intOf]; omega
      · have hno : offOK zs = false := by
          cases h : offOK zs
          · rfl
          · exact absurd ((offOK_iff zs).1 h _ (el_mem zs k hlt)) hok
        have HN : Hid _ := hno
        clear hno
        by_cases h1 : el zs k < 1
        · go_wp2_with fail
          go_ret
          exact ⟨ret_bool HN.out.symm, rfl⟩
        · have d1 : decide (el zs k < 1) = false := decide_eq_false h1
          have h2 : 65536 < el zs k := by omega
          go_wp2_with fail
          go_ret
          exact ⟨ret_bool HN.out.symm, rfl⟩
    · have hyes : offOK zs = true := by
        rw [offOK_iff]
        intro d hd
        obtain ⟨i, hi, e⟩ := List.mem_iff_getElem.1 hd
        have := HP.out i (by omega)
        simp [el, hi] at this
        rw [← e]; exact this
      have HN : Hid _ := hyes
      clear hyes
      go_wp2_with fail
      go_ret
      exact ⟨ret_bool HN.out.symm, rfl⟩

set_option maxHeartbeats 1000000 in
theorem netLast_any (a : Option Addr) (c : Nat) (zs : List Int) (w : World) (r : RowA w a zs) (hl : zs.length ≤ 4096) :
    Calls Try.prog 12 #[.slice a zs.length c] w fun e w' => e = .returned (.int .i64 (lastOf zs)) ∧ w' = w := by
  go_enter Try.func12, Try.ntmps12
  go_wp2_with fail
  go_loop [3, 4] (fun l i => ∃ k : Nat, k ≤ zs.length ∧ i = .int .i64 k ∧ l = .int .i64 (lastOf (zs.take k))) (fun _ i => zs.length - (intOf i).toNat)
  case atStart => exact ⟨0, Nat.zero_le _, rfl, rfl⟩
  case round =>
    obtain ⟨k, hk, rfl, rfl⟩ := hrel
    by_cases hlt : k < zs.length
    · obtain ⟨b, off, rfl, hbl, hcells⟩ := r (by omega)
      have hcell := hcells k hlt
      clear hcells
      have HS : Hid (lastOf (zs.take (k + 1)) = mx (lastOf (zs.take k)) (el zs k)) := by rw [take_el zs k hlt]; exact lastOf_snoc _ _
      go_wp2_with fail
      refine (zzMax_any _ _ _).mono ?_; rintro e w' ⟨rfl, hw'⟩; rw [hw']; clear hw' w'
      go_wp2_with fail
      go_round
      case rel => exact ⟨k + 1, by omega, by go_num, by rw [HS.out]⟩
      case measure => simp [intOf]; omega
    · have e : k = zs.length := by omega
      subst e
      rw [List.take_length]
      go_wp2_with fail
      go_ret
      exact ⟨rfl, rfl⟩

/-- A call that answers some bool, yes where 'small' holds, and turns nothing. -/
def BP (small : Prop) (w : World) (e : Ending) (w' : World) : Prop := ∃ b, e = .returned (.bool b) ∧ (small → b = true) ∧ w' = w

set_option maxHeartbeats 1000000 in
theorem bytes18_any (h0 : Int) (a1 a2 : Option Addr) (n1 n2 c1 c2 : Nat) (w : World) (h1 : n1 ≤ 9223372036854775807) (h2 : n2 ≤ 9223372036854775807) :
    Calls Try.prog 18 #[.int .i64 h0, .slice a1 n1 c1, .slice a2 n2 c2] w (BP (n1 ≤ 4096 ∧ n2 ≤ 4096) w) := by
  by_cases k1 : n1 ≤ 1048576
  · have d1 : ¬ (1048576 : Int) < n1 := by omega
    by_cases k2 : n2 ≤ 1048576
    · have d2 : ¬ (1048576 : Int) < n2 := by omega
      by_cases k3 : n1 + n2 ≤ 1048576
      · have d3 : ¬ (1048576 : Int) < n1 + n2 := by omega
        go_enter Try.func18, Try.ntmps18
        go_wp2
        go_ret
        exact ⟨true, rfl, fun _ => rfl, rfl⟩
      · have d3 : (1048576 : Int) < n1 + n2 := by omega
        go_enter Try.func18, Try.ntmps18
        go_wp2
        go_ret
        exact ⟨false, rfl, fun _ => by omega, rfl⟩
    · have d2 : (1048576 : Int) < n2 := by omega
      go_enter Try.func18, Try.ntmps18
      go_wp2
      go_ret
      exact ⟨false, rfl, fun _ => by omega, rfl⟩
  · have d1 : (1048576 : Int) < n1 := by omega
    go_enter Try.func18, Try.ntmps18
    go_wp2
    go_ret
    exact ⟨false, rfl, fun _ => by omega, rfl⟩

set_option maxHeartbeats 400000 in
theorem clock_any (bn bl : Nat) (h : Int) (w : World) (h1 : w.cell? ⟨bn, 259, none⟩ = some (.pointer (some ⟨bl, 0, none⟩))) (h2 : w.cell? ⟨bl, 2, none⟩ = some (.int .i64 h)) :
    Calls Try.prog 13 #[.pointer (some ⟨bn, 0, none⟩)] w fun e w' => e = .returned (.int .i64 h) ∧ w' = w := by
  go_enter Try.func13, Try.ntmps13
  go_wp2
  go_ret
  exact ⟨rfl, rfl⟩
set_option maxHeartbeats 400000 in
theorem pending_any (bn bl : Nat) (h : Int) (w : World) (h1 : w.cell? ⟨bn, 259, none⟩ = some (.pointer (some ⟨bl, 0, none⟩))) (h2 : w.cell? ⟨bl, 4, none⟩ = some (.int .i64 h)) :
    Calls Try.prog 15 #[.pointer (some ⟨bn, 0, none⟩)] w fun e w' => e = .returned (.int .i64 h) ∧ w' = w := by
  go_enter Try.func15, Try.ntmps15
  go_wp2
  go_ret
  exact ⟨rfl, rfl⟩
set_option maxHeartbeats 400000 in
theorem inTransit_any (bn bl : Nat) (a : Option Addr) (n c : Nat) (w : World) (h1 : w.cell? ⟨bn, 259, none⟩ = some (.pointer (some ⟨bl, 0, none⟩))) (h2 : w.cell? ⟨bl, 0, none⟩ = some (.slice a n c)) :
    Calls Try.prog 14 #[.pointer (some ⟨bn, 0, none⟩)] w fun e w' => e = .returned (.int .i64 n) ∧ w' = w := by
  go_enter Try.func14, Try.ntmps14
  go_wp2
  go_ret
  exact ⟨rfl, rfl⟩
set_option maxHeartbeats 400000 in
theorem timersLeft_any (bn bl bm ck : Nat) (w : World) (h1 : w.cell? ⟨bn, 259, none⟩ = some (.pointer (some ⟨bl, 0, none⟩))) (h2 : w.cell? ⟨bl, 3, none⟩ = some (.map (some bm))) (hm : w.heap[bm]? = some (.map #[] ck)) :
    Calls Try.prog 16 #[.pointer (some ⟨bn, 0, none⟩)] w fun e w' => e = .returned (.int .i64 0) ∧ w' = w := by
  have hlen : ∀ ty, (Builtin.len_ #[75] ty #[.map (some bm)]).run Try.prog w = .ok (.int .i64 0) w := fun ty => by
    simp [Builtin.len_, run_underlying Try.underlying75, MapKept.run_getObj_map hm, goInt]
  go_enter Try.func16, Try.ntmps16
  go_wp2
  go_ret
  exact ⟨rfl, rfl⟩
set_option maxHeartbeats 400000 in
theorem holding_any (bn : Nat) (w : World) (h1 : w.cell? ⟨bn, 260, none⟩ = some (.pointer none)) :
    Calls Try.prog 17 #[.pointer (some ⟨bn, 0, none⟩)] w fun e w' => e = .returned (.bool false) ∧ w' = w := by
  go_enter Try.func17, Try.ntmps17
  go_wp2
  go_ret
  exact ⟨rfl, rfl⟩
end Go.Proofs.Qxb6612833a

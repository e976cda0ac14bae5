/- The walk of FnHoldSetsAsideUntagged. -/
import Derived.Test.Qxb6612833aHold
import Derived.Test.Qxb6612833aAgrees
import Derived.BigQuiet
import Derived.Deep.QuietTactic
namespace Go.Proofs.Qxb6612833a
open Go.ChangeShapes Go.WideShapes Go.ChangeAt Go.RowKit

theorem hold_any {B bn bl bm bmem : Nat} {h p : Int} {s q : Value} {tags : List Int} (w : World) (hB : B ≤ bn ∧ B ≤ bl ∧ B ≤ w.heap.size) (hn : NetB w bn bl bmem (.pointer none)) (hl : LaneB w bl bm q s h p) (hq : QB w B q tags) (hT : tags.length ≤ 4096) :
    Calls Try.prog 39 #[.pointer (some ⟨bn, 0, none⟩), .func (.func 40) #[] #[]] w fun e w' => e = .returned (.tuple #[]) ∧ ∃ q', NetB w' bn bl bmem (.pointer none) ∧ LaneB w' bl bm q' s h p ∧ QB w' B q' (tgd tags) ∧ Below B w w' := by
  by_cases h0 : tags.length = 0
  · have e : tags = [] := List.eq_nil_of_length_eq_zero h0
    subst e
    rcases hq.2 with ⟨h1, _⟩ | ⟨g, cap, cur, h1, _⟩
    · subst h1; exact hold_empty B bn bl bm bmem 0 none h p s w hB hn hl hq
    · subst h1; exact hold_empty B bn bl bm bmem cap _ h p s w hB hn hl hq
  · rcases hq.2 with ⟨_, h1⟩ | ⟨g, cap, cur, h1, _⟩
    · exact absurd h1 h0
    · subst h1
      exact hold_core B bn bl bm bmem g cap h p s tags w hB hn hl hq ⟨by omega, hT⟩

set_option maxHeartbeats 400000 in
theorem holdIdle_any {B bn bl bm bmem : Nat} {h p : Int} {s q : Value} {tags : List Int} (w : World) (hB : B ≤ bn ∧ B ≤ bl ∧ B ≤ w.heap.size) (hn : NetB w bn bl bmem (.pointer none)) (hl : LaneB w bl bm q s h p) (hq : QB w B q tags) (hT : tags.length ≤ 4096) :
    Calls Try.prog 21 #[.pointer (some ⟨bn, 0, none⟩)] w fun e w' => e = .returned (.tuple #[]) ∧ ∃ q', NetB w' bn bl bmem (.pointer none) ∧ LaneB w' bl bm q' s h p ∧ QB w' B q' (tgd tags) ∧ Below B w w' := by
  go_enter Try.func21, Try.ntmps21
  go_wp2_with fail
  refine (hold_any w hB hn hl hq hT).mono ?_
  rintro e w' ⟨rfl, q', k1, k2, k3, k4⟩
  go_wp2_with fail
  go_end0
  exact ⟨rfl, q', k1, k2, k3, k4⟩

set_option maxHeartbeats 400000 in
theorem queueTag_any (bn bl g n c : Nat) (j : Nat) (t : Int) (w : World) (h1 : w.cell? ⟨bn, 259, none⟩ = some (.pointer (some ⟨bl, 0, none⟩))) (h2 : w.cell? ⟨bl, 0, none⟩ = some (.slice (some ⟨g, 0, none⟩) n c)) (hj : j < n) (_hn : n ≤ 4096)
    (h3 : w.cell? ⟨g, j * 48 + 47, none⟩ = some (.int .i64 t)) :
    Calls Try.prog 22 #[.pointer (some ⟨bn, 0, none⟩), .int .i64 j] w fun e w' => e = .returned (.int .i64 t) ∧ w' = w := by
  go_enter Try.func22, Try.ntmps22
  go_wp2_with fail
  go_ret
  exact ⟨rfl, rfl⟩

theorem tgd_at (tags : List Int) (i : Nat) (t : Int) (h : tags[i]? = some t) (ht : (t == -1) = false) : (tgd tags)[(tgd (tags.take i)).length]? = some t := by
  have hk : i < tags.length := (List.getElem?_eq_some_iff.1 h).1
  have e : tags = tags.take i ++ (t :: tags.drop (i + 1)) := by
    rw [List.getElem?_eq_getElem hk] at h
    simp at h
    rw [← h, ← List.drop_eq_getElem_cons hk, List.take_append_drop]
  have e2 : tgd tags = tgd (tags.take i) ++ (t :: tgd (tags.drop (i + 1))) := by
    conv => lhs; rw [e]
    simp [tgd, ht]
  rw [e2, List.getElem?_append_right (Nat.le_refl _)]
  simp

set_option maxHeartbeats 1000000 in
theorem bytes20_any (h0 : Int) (a1 a2 : Option Addr) (n1 n2 c1 c2 : Nat) (w : World) (h1 : n1 ≤ 9223372036854775807) (h2 : n2 ≤ 9223372036854775807) :
    Calls Try.prog 20 #[.int .i64 h0, .slice a1 n1 c1, .slice a2 n2 c2] w (BP (n1 ≤ 4096 ∧ n2 ≤ 4096) w) := by
  by_cases k1 : n1 ≤ 1048576
  · have d1 : ¬ (1048576 : Int) < n1 := by omega
    by_cases k2 : n2 ≤ 1048576
    · have d2 : ¬ (1048576 : Int) < n2 := by omega
      by_cases k3 : n1 + n2 ≤ 1048576
      · have d3 : ¬ (1048576 : Int) < n1 + n2 := by omega
        go_enter Try.func20, Try.ntmps20
        go_wp2
        go_ret
        exact ⟨true, rfl, fun _ => rfl, rfl⟩
      · have d3 : (1048576 : Int) < n1 + n2 := by omega
        go_enter Try.func20, Try.ntmps20
        go_wp2
        go_ret
        exact ⟨false, rfl, fun _ => by omega, rfl⟩
    · have d2 : (1048576 : Int) < n2 := by omega
      go_enter Try.func20, Try.ntmps20
      go_wp2
      go_ret
      exact ⟨false, rfl, fun _ => by omega, rfl⟩
  · have d1 : (1048576 : Int) < n1 := by omega
    go_enter Try.func20, Try.ntmps20
    go_wp2
    go_ret
    exact ⟨false, rfl, fun _ => by omega, rfl⟩

set_option maxRecDepth 100000 in
set_option maxHeartbeats 3200000 in
theorem holds_main (h0 : Int) (a1 a2 : Option Addr) (c1 c2 : Nat) (tags due : List Int) (w : World) (r1 : RowA w a1 tags) (r2 : RowA w a2 due) (hh : 0 ≤ h0 ∧ h0 ≤ 1073741824) (l1 : tags.length ≤ 4096) (l2 : due.length ≤ 4096) (o2 : offOK due = true) :
    Calls Try.prog 5 #[.int .i64 h0, .slice a1 tags.length c1, .slice a2 due.length c2] w fun e w' => e = .returned (.bool true) ∧ Below w.heap.size w w' := by
  have hd := (offOK_iff due).1 o2
  have HD : Hid _ := hd
  clear hd
  have d1 : decide ((4096 : Int) < tags.length) = false := decide_eq_false (by omega)
  have d2 : decide ((4096 : Int) < due.length) = false := decide_eq_false (by omega)
  have d3 : decide (h0 < 0) = false := decide_eq_false (by omega)
  have d4 : decide ((1073741824 : Int) < h0) = false := decide_eq_false (by omega)
  go_enter Try.func5, Try.ntmps5
  go_wp2_with fail
  refine (bytes20_any _ _ _ _ _ _ _ _ (by omega) (by omega)).mono ?_
  rintro e w' ⟨b, rfl, hb, hw'⟩
  rw [hw', hb ⟨l1, l2⟩]; clear hw' w' hb b
  go_wp2_with fail
  refine (netOffsetsOK_any _ _ due _ r2 l2).mono ?_; rintro e w' ⟨rfl, hw'⟩; rw [hw', o2]; clear hw' w'
  go_wp2_with fail
  refine (netBuild_any h0 0 a1 a2 none c1 c2 0 tags due [] w r1 r2 (fun h => by simp at h) hh (by omega) l1 l2 (by simp) HD.out (fun d hd => by simp at hd)).mono ?_
  rintro e w1 ⟨rfl, I1⟩
  simp only [List.replicate_zero, List.nil_append] at I1
  have b1 := I1.bel
  obtain ⟨q, n1, la1, qb1, t1, _⟩ := I1
  have hsz1 := b1.size
  go_wp2_with fail
  refine (holdIdle_any (B := w.heap.size) w1 ⟨by omega, by omega, hsz1⟩ n1 la1 qb1 l1).mono ?_
  rintro e w2 ⟨rfl, q', n2, la2, qb2, b2⟩
  have HB : Hid (Below w.heap.size w w2) := b1.trans b2
  have hTl := tgd_le tags
  obtain ⟨aq, cq, hq'⟩ : ∃ aq cq, q' = .slice aq (tgd tags).length cq := by
    rcases qb2.2 with ⟨e, e0⟩ | ⟨g, cap, cur, e, _⟩
    · exact ⟨none, 0, by rw [e, e0]⟩
    · exact ⟨_, _, e⟩
  subst hq'
  clear n1 la1 qb1 t1 b1 b2
  have e1 : (h0 != h0) = false := by simp
  have e2 : ((due.length : Int) != due.length) = false := by simp
  go_wp2_with fail
  refine (clock_any _ _ _ _ n2.c259 la2.c2).mono ?_; rintro e w' ⟨rfl, hw'⟩; rw [hw']; clear hw' w'
  go_wp2_with fail
  refine (pending_any _ _ _ _ n2.c259 la2.c4).mono ?_; rintro e w' ⟨rfl, hw'⟩; rw [hw']; clear hw' w'
  go_wp2_with fail
  refine (holding_any _ _ n2.c260).mono ?_; rintro e w' ⟨rfl, hw'⟩; rw [hw']; clear hw' w'
  go_wp2_with fail
  go_loopw [8, 9] (fun j i wr => ∃ k : Nat, k ≤ tags.length ∧ i = .int .i64 k ∧ j = .int .i64 (tgd (tags.take k)).length ∧ (∃ nq, wr = w2.drewN nq)) (fun _ i _ => tags.length - (intOf i).toNat)
  case atStart => exact ⟨0, Nat.zero_le _, rfl, rfl, 0, rfl⟩
  case round =>
    obtain ⟨k, hk, rfl, rfl, nq, hwr⟩ := hrel
    have nr : NetB wr (w.heap.size + 3) (w.heap.size + 2) w.heap.size (.pointer none) := by rw [hwr]; exact n2
    have lr : LaneB wr (w.heap.size + 2) (w.heap.size + 1) (.slice aq (tgd tags).length cq) (.slice none 0 0) h0 due.length := by rw [hwr]; exact la2
    have qr : QB wr w.heap.size (.slice aq (tgd tags).length cq) (tgd tags) := by rw [hwr]; exact qb2
    have br : Below w.heap.size w wr := by rw [hwr]; exact ⟨HB.out.os, HB.out.tape, HB.out.output, HB.out.size, HB.out.block⟩
    have HWR : Hid (∃ nq, wr = w2.drewN nq) := ⟨nq, hwr⟩
    have HBR : Hid (Below w.heap.size w wr) := br
    clear hwr
    by_cases hlt : k < tags.length
    · obtain ⟨b, off, rfl, hbl, hcells⟩ := r1 (by omega)
      have hcell := (br.cell (p := ⟨b, off + k, none⟩) hbl).trans (hcells k hlt)
      have htk : tags[k]? = some (el tags k) := by
        rw [List.getElem?_eq_getElem hlt]; simp [el, hlt]
      have HTE : Hid (tags.take (k + 1) = tags.take k ++ [el tags k]) := take_el tags k hlt
      clear hcells br
      cases htt : (el tags k == -1)
      · have hat := tgd_at tags k (el tags k) htk htt
        have hjl : (tgd (tags.take k)).length < (tgd tags).length := (List.getElem?_eq_some_iff.1 hat).1
        have HTT : Hid ((el tags k == -1) = false) := htt
        obtain ⟨g, rfl, h47⟩ : ∃ g, aq = some ⟨g, 0, none⟩ ∧ wr.cell? ⟨g, (tgd (tags.take k)).length * 48 + 47, none⟩ = some (.int .i64 (el tags k)) := by
          rcases qr.2 with ⟨_, e0⟩ | ⟨g, cap, cur, e, _⟩
          · omega
          · obtain ⟨rfl, rfl⟩ : aq = some ⟨g, 0, none⟩ ∧ cq = cap := by simpa using e
            refine ⟨g, rfl, ?_⟩
            exact qr.range _ _ hat 47 _ (by rw [Array.getElem?_toList]; exact envC_47 _ _ _)
        have hd1 : decide (((tgd tags).length : Int) ≤ (tgd (tags.take k)).length) = false := decide_eq_false (by omega)
        have c259 := nr.c259
        have c0 := lr.c0
        have hne : (el tags k != el tags k) = false := by simp
        clear hat htk
        go_wp2_with fail
        go_quiet ((first | (go_at_call 14; exact Calls.quiet_of_same (inTransit_any _ _ _ _ _ _ (by exact c259) (by exact c0))) | (go_at_call 22; exact Calls.quiet_of_same (queueTag_any _ _ _ _ _ _ _ _ (by exact c259) (by exact c0) hjl (by omega) (by exact h47)))))
        have HX : Hid (∃ nq', wr.drewN nq = w2.drewN nq') := by
          obtain ⟨m, hm⟩ := HWR.out
          exact ⟨m + nq, by rw [hm]; simp [World.drewN, Nat.add_assoc]⟩
        generalize wr.drewN nq = w3 at *
        go_wp2_with fail
        go_roundw
        case rel => exact ⟨k + 1, by omega, by go_num, by rw [HTE.out, tgd_yes _ _ HTT.out, List.length_append]; rfl, HX.out⟩
        case measure => simp [intOf]; omega
      · have HTT : Hid ((el tags k == -1) = true) := htt
        go_wp2_with fail
        go_roundw
        case rel => exact ⟨k + 1, by omega, by go_num, by rw [HTE.out, tgd_no _ _ HTT.out], HWR.out⟩
        case measure => simp [intOf]; omega
    · obtain rfl : k = tags.length := by omega
      rw [List.take_length]
      go_wp2_with fail
      refine (inTransit_any _ _ _ _ _ _ nr.c259 lr.c0).mono ?_; rintro e w' ⟨rfl, hw'⟩; rw [hw']; clear hw' w'
      go_wp2_with fail
      go_ret
      exact ⟨ret_bool (by simp), HBR.out⟩

set_option maxHeartbeats 1600000 in
theorem holds_long (h0 : Int) (a1 a2 : Option Addr) (n1 n2 c1 c2 : Nat) (w : World) (m1 : n1 ≤ 9223372036854775807) (m2 : n2 ≤ 9223372036854775807) (h : 4096 < n1 ∨ 4096 < n2) :
    Calls Try.prog 5 #[.int .i64 h0, .slice a1 n1 c1, .slice a2 n2 c2] w fun e w' => e = .returned (.bool true) ∧ Below w.heap.size w w' := by
  by_cases h1 : 4096 < n1
  · have d1 : (4096 : Int) < n1 := by omega
    go_enter Try.func5, Try.ntmps5
    go_wp2_with fail
    refine (bytes20_any _ _ _ _ _ _ _ _ (by omega) (by omega)).mono ?_
    rintro e w' ⟨b, rfl, hb, hw'⟩
    rw [hw']; clear hw' w' hb
    cases b
    all_goals
      go_wp2_with fail
      go_ret
      exact ⟨rfl, Below.refl _ _⟩
  · have d1 : decide ((4096 : Int) < n1) = false := decide_eq_false (by omega)
    have d2 : (4096 : Int) < n2 := by omega
    go_enter Try.func5, Try.ntmps5
    go_wp2_with fail
    refine (bytes20_any _ _ _ _ _ _ _ _ (by omega) (by omega)).mono ?_
    rintro e w' ⟨b, rfl, hb, hw'⟩
    rw [hw']; clear hw' w' hb
    cases b
    all_goals
      go_wp2_with fail
      go_ret
      exact ⟨rfl, Below.refl _ _⟩

set_option maxHeartbeats 1600000 in
theorem holds_hop (h0 : Int) (a1 a2 : Option Addr) (n1 n2 c1 c2 : Nat) (w : World) (m1 : n1 ≤ 4096) (m2 : n2 ≤ 4096) (h : h0 < 0 ∨ 1073741824 < h0) :
    Calls Try.prog 5 #[.int .i64 h0, .slice a1 n1 c1, .slice a2 n2 c2] w fun e w' => e = .returned (.bool true) ∧ Below w.heap.size w w' := by
  have d1 : decide ((4096 : Int) < n1) = false := decide_eq_false (by omega)
  have d2 : decide ((4096 : Int) < n2) = false := decide_eq_false (by omega)
  by_cases h1 : h0 < 0
  · go_enter Try.func5, Try.ntmps5
    go_wp2_with fail
    refine (bytes20_any _ _ _ _ _ _ _ _ (by omega) (by omega)).mono ?_
    rintro e w' ⟨b, rfl, hb, hw'⟩
    rw [hw', hb ⟨m1, m2⟩]; clear hw' w' hb b
    go_wp2_with fail
    go_ret
    exact ⟨rfl, Below.refl _ _⟩
  · have d3 : decide (h0 < 0) = false := decide_eq_false h1
    have d4 : 1073741824 < h0 := by omega
    go_enter Try.func5, Try.ntmps5
    go_wp2_with fail
    refine (bytes20_any _ _ _ _ _ _ _ _ (by omega) (by omega)).mono ?_
    rintro e w' ⟨b, rfl, hb, hw'⟩
    rw [hw', hb ⟨m1, m2⟩]; clear hw' w' hb b
    go_wp2_with fail
    go_ret
    exact ⟨rfl, Below.refl _ _⟩

set_option maxHeartbeats 1600000 in
theorem holds_off (h0 : Int) (a1 a2 : Option Addr) (n1 c1 c2 : Nat) (due : List Int) (w : World) (r2 : RowA w a2 due) (hh : 0 ≤ h0 ∧ h0 ≤ 1073741824) (l1 : n1 ≤ 4096) (l2 : due.length ≤ 4096) (o1 : offOK due = false) :
    Calls Try.prog 5 #[.int .i64 h0, .slice a1 n1 c1, .slice a2 due.length c2] w fun e w' => e = .returned (.bool true) ∧ Below w.heap.size w w' := by
  have d1 : decide ((4096 : Int) < n1) = false := decide_eq_false (by omega)
  have d2 : decide ((4096 : Int) < due.length) = false := decide_eq_false (by omega)
  have d3 : decide (h0 < 0) = false := decide_eq_false (by omega)
  have d4 : decide ((1073741824 : Int) < h0) = false := decide_eq_false (by omega)
  go_enter Try.func5, Try.ntmps5
  go_wp2_with fail
  refine (bytes20_any _ _ _ _ _ _ _ _ (by omega) (by omega)).mono ?_
  rintro e w' ⟨b, rfl, hb, hw'⟩
  rw [hw', hb ⟨l1, l2⟩]; clear hw' w' hb b
  go_wp2_with fail
  refine (netOffsetsOK_any _ _ due _ r2 l2).mono ?_; rintro e w' ⟨rfl, hw'⟩; rw [hw', o1]; clear hw' w'
  go_wp2_with fail
  go_ret
  exact ⟨rfl, Below.refl _ _⟩
end Go.Proofs.Qxb6612833a

/- The walk of FnRunEndsAtLastLiveTimer. -/
import Derived.Test.Qxb6612833aAdvanceQ
import Derived.Test.Qxb6612833aAgrees
namespace Go.Proofs.Qxb6612833a
open Go.ChangeShapes Go.WideShapes Go.ChangeAt Go.RowKit
open Go.ChangeMaps (setBlock)

set_option maxRecDepth 100000 in
set_option maxHeartbeats 3200000 in
/-- 'Run' where messages without a tag are in transit to nobody: they are gone at the first hop. -/
theorem runq_any {B C bn bl bmem bm N : Nat} {L : Int → Nat} {P : Int → Int} {h p E : Int} {g nQ cq : Nat} {aS : Option Addr} {ns cs : Nat} (w : World) (hw : Way L P (h + 1) E) (h0 : 0 ≤ h) (hp : 0 ≤ p ∧ p ≤ 100000) (hst : P (h + 1) = p - L (h + 1)) (hb : Bd B bn bl bm bmem) (hc : bn < C ∧ bl < C ∧ bm < C) (hgC : B ≤ g ∧ g < C) (hN : N ≤ 100000)
    (hn : NetB w bn bl bmem (.pointer none)) (hl : LaneB w bl bm (.slice (some ⟨g, 0, none⟩) nQ cq) (.slice aS ns cs) h p) (hq : QB w B (.slice (some ⟨g, 0, none⟩) nQ cq) (List.replicate nQ (-1))) (hnq : 0 < nQ ∧ nQ ≤ 4096) (ht : TGC w B C bm h N L) :
    Calls Try.prog 10 #[.pointer (some ⟨bn, 0, none⟩)] w fun e w' => e = .returned (.tuple #[]) ∧ ∃ aq cq s ck, NetB w' bn bl bmem (.pointer none) ∧ LaneB w' bl bm (.slice aq 0 cq) s E 0 ∧ w'.heap[bm]? = some (.map #[] ck) ∧ Betw B C w w' := by
  have c259 := hn.c259
  have c260 := hn.c260
  have c1 := hn.c1
  have f1 := hn.fr 1
  have HN : Hid (NetB w bn bl bmem (.pointer none)) := hn
  have HL : Hid (LaneB w bl bm (.slice (some ⟨g, 0, none⟩) nQ cq) (.slice aS ns cs) h p) := hl
  have HT : Hid (TGC w B C bm h N L) := ht
  have HQ : Hid (QB w B (.slice (some ⟨g, 0, none⟩) nQ cq) (List.replicate nQ (-1))) := hq
  clear hn hl ht hq
  go_enter Try.func10, Try.ntmps10
  go_wp2_with fail
  refine (handRefused_any bn _ c1 f1).mono ?_; rintro e w' ⟨rfl, hw'⟩; rw [hw']; clear hw' w'
  go_wp2_with fail
  go_loopw [19] (fun _ wr => wr = w ∨ ∃ x, h + 1 ≤ x ∧ x ≤ E ∧ At B C bn bl bmem bm N (.pointer none) L P x w wr) (fun _ wr => (E - hopOf bl wr).toNat)
  case atStart => exact .inl rfl
  case round =>
    rcases hrel with hrel | ⟨x, hx1, hx2, aq, cq, aS, ns, cs, hn, hl, ht, hbel⟩
    · rw [hrel]
      have hbz : (decide (0 < nQ) || decide (0 < p)) = true := by simp [hnq.1]
      have hle := hw.le
      have hE := hw.hE
      go_wp2_with fail
      refine (busy_any bl _ nQ cq p _ HL.out.c0 HL.out.c4).mono ?_; rintro e w' ⟨rfl, hw'⟩; rw [hw', hbz]; clear hw' w'
      go_wp2_with fail
      refine (advanceq_any _ ⟨⟨hb.n, hc.1⟩, ⟨hb.l, hc.2.1⟩, ⟨hb.m, hc.2.2⟩⟩ hgC hb.ne HN.out HL.out HQ.out hnq HT.out ⟨h0, by omega⟩ hp hN).mono ?_
      rintro e w' ⟨rfl, k1, k2, k3, k4⟩
      have hop1 := HL.out.hopOf
      have hop2 := k2.hopOf
      go_wp2_with fail
      go_roundw
      case rel => exact .inr ⟨h + 1, by omega, hle, aS, cs, _, nQ, _, k1, by rw [hst]; exact k2, k3, k4⟩
      case measure => rw [hop1, hop2]; omega
    · have bd := hw.bd x hx1 hx2
      by_cases hlt : x < E
      · have hpos := hw.pos x hx1 hlt
        have hbz : (decide (0 < 0) || decide (0 < P x)) = true := by simp [hpos]
        go_wp2_with fail
        refine (busy_any bl aq 0 cq (P x) _ hl.c0 hl.c4).mono ?_; rintro e w' ⟨rfl, hw'⟩; rw [hw', hbz]; clear hw' w'
        go_wp2_with fail
        refine (advance_any _ ⟨⟨hb.n, hc.1⟩, ⟨hb.l, hc.2.1⟩, ⟨hb.m, hc.2.2⟩⟩ hb.ne hn hl ht ⟨by omega, by have := hw.hE; omega⟩ bd hN).mono ?_
        rintro e w' ⟨rfl, k1, k2, k3, k4⟩
        have hop1 := hl.hopOf
        have hop2 := k2.hopOf
        have hst' := hw.step x hx1 hlt
        go_wp2_with fail
        go_roundw
        case rel => exact .inr ⟨x + 1, by omega, by omega, aS, cs, aq, 0, cq, k1, by rw [hst']; exact k2, k3, hbel.trans k4⟩
        case measure => rw [hop1, hop2]; omega
      · have e : x = E := by omega
        subst e
        have hz := hw.fin
        have hbz : (decide (0 < 0) || decide (0 < P x)) = false := by simp [hz]
        have c3 := hl.c3
        obtain ⟨es, ck, G, D, h1, h2, h3, h4, h5⟩ := ht
        have hclr := fun ty => run_clr h1 ty
        go_wp2_with fail
        refine (busy_any bl aq 0 cq (P x) _ hl.c0 hl.c4).mono ?_; rintro e w' ⟨rfl, hw'⟩; rw [hw', hbz]; clear hw' w'
        have HF : Hid (∃ aq cq s ck', NetB (setBlock wr bm (.map #[] ck)) bn bl bmem (.pointer none) ∧ LaneB (setBlock wr bm (.map #[] ck)) bl bm (.slice aq 0 cq) s x 0 ∧ (setBlock wr bm (.map #[] ck)).heap[bm]? = some (.map #[] ck') ∧ Betw B C w (setBlock wr bm (.map #[] ck))) := by
          obtain ⟨cs0, hbn⟩ := hn.blk
          refine ⟨aq, cq, .slice aS ns cs, ck, hn.grown (setBlock_far _ (obj_ne hbn h1 (by simp))) (setBlock_far _ (Ne.symm hb.ne)), ?_, setBlock_near h1 _, hbel.setBlock ⟨hb.m, hc.2.2⟩ _⟩
          rw [hz] at hl
          exact hl.grown (setBlock_far _ (obj_ne hl.blk h1 (by simp)))
        clear hn hl h3 h4 h1 hbel HN HL HT HQ
        go_wp2_with fail
        go_end0
        exact ⟨rfl, HF.out⟩

theorem way1 (h0 : Int) (ds : List Int) (hh : 0 ≤ h0 ∧ h0 ≤ 1073741824) (hl : ds.length ≤ 4096) (h : ∀ d ∈ ds, 1 ≤ d ∧ d ≤ 65536) : Way (cnt h0 ds) (left h0 ds) (h0 + 1) (h0 + mx 1 (lastOf ds)) := by
  have b := lastOf_bd ds h
  have m1 : 1 ≤ mx 1 (lastOf ds) ∧ lastOf ds ≤ mx 1 (lastOf ds) ∧ mx 1 (lastOf ds) ≤ 65536 ∧ (mx 1 (lastOf ds) = 1 ∨ mx 1 (lastOf ds) = lastOf ds) := by unfold mx; split <;> omega
  refine ⟨by omega, by omega, by omega, fun x _ _ => left_step h0 ds x, fun x h1 h2 => left_pos h0 ds x (by omega) (by omega), fun x _ _ => ?_, left_fin h0 ds _ (by omega)⟩
  have := left_bd h0 ds x
  omega

set_option maxHeartbeats 1000000 in
theorem bytes7_any (h0 t : Int) (a1 a2 : Option Addr) (n1 n2 c1 c2 : Nat) (w : World) (h1 : n1 ≤ 9223372036854775807) (h2 : n2 ≤ 9223372036854775807) :
    Calls Try.prog 7 #[.int .i64 h0, .int .i64 t, .slice a1 n1 c1, .slice a2 n2 c2] w (BP (n1 ≤ 4096 ∧ n2 ≤ 4096) w) := by
  by_cases k1 : n1 ≤ 1048576
  · have d1 : ¬ (1048576 : Int) < n1 := by omega
    by_cases k2 : n2 ≤ 1048576
    · have d2 : ¬ (1048576 : Int) < n2 := by omega
      by_cases k3 : n1 + n2 ≤ 1048576
      · have d3 : ¬ (1048576 : Int) < n1 + n2 := by omega
        go_enter Try.func7, Try.ntmps7
        go_wp2
        go_ret
        exact ⟨true, rfl, fun _ => rfl, rfl⟩
      · have d3 : (1048576 : Int) < n1 + n2 := by omega
        go_enter Try.func7, Try.ntmps7
        go_wp2
        go_ret
        exact ⟨false, rfl, fun _ => by omega, rfl⟩
    · have d2 : (1048576 : Int) < n2 := by omega
      go_enter Try.func7, Try.ntmps7
      go_wp2
      go_ret
      exact ⟨false, rfl, fun _ => by omega, rfl⟩
  · have d1 : (1048576 : Int) < n1 := by omega
    go_enter Try.func7, Try.ntmps7
    go_wp2
    go_ret
    exact ⟨false, rfl, fun _ => by omega, rfl⟩

set_option maxRecDepth 100000 in
set_option maxHeartbeats 3200000 in
theorem ends_main (h0 : Int) (nt : Nat) (a1 a2 : Option Addr) (c1 c2 : Nat) (due stp : List Int) (w : World) (r1 : RowA w a1 due) (r2 : RowA w a2 stp) (hh : 0 ≤ h0 ∧ h0 ≤ 1073741824) (ht : nt ≤ 4096) (l1 : due.length ≤ 4096) (l2 : stp.length ≤ 4096)
    (o1 : offOK due = true) (o2 : offOK stp = true) :
    Calls Try.prog 3 #[.int .i64 h0, .int .i64 nt, .slice a1 due.length c1, .slice a2 stp.length c2] w fun e w' => e = .returned (.bool true) ∧ Below w.heap.size w w' := by
  have hd := (offOK_iff due).1 o1
  have hs := (offOK_iff stp).1 o2
  have hlast := lastOf_bd due hd
  have hway := way h0 due hh l1 hd
  have hway1 := way1 h0 due hh l1 hd
  have HD : Hid _ := hd
  have HS : Hid _ := hs
  clear hd hs
  have d1 : decide ((4096 : Int) < due.length) = false := decide_eq_false (by omega)
  have d2 : decide ((4096 : Int) < stp.length) = false := decide_eq_false (by omega)
  have d3 : decide (h0 < 0) = false := decide_eq_false (by omega)
  have d4 : decide ((1073741824 : Int) < h0) = false := decide_eq_false (by omega)
  have d5 : decide ((nt : Int) < 0) = false := decide_eq_false (by omega)
  have d6 : decide ((4096 : Int) < nt) = false := decide_eq_false (by omega)
  go_enter Try.func3, Try.ntmps3
  go_wp2_with fail
  refine (bytes7_any _ _ _ _ _ _ _ _ _ (by omega) (by omega)).mono ?_
  rintro e w' ⟨b, rfl, hb, hw'⟩
  rw [hw', hb ⟨l1, l2⟩]; clear hw' w' hb b
  go_wp2_with fail
  refine (netOffsetsOK_any _ _ due _ r1 l1).mono ?_; rintro e w' ⟨rfl, hw'⟩; rw [hw', o1]; clear hw' w'
  go_wp2_with fail
  refine (netOffsetsOK_any _ _ stp _ r2 l2).mono ?_; rintro e w' ⟨rfl, hw'⟩; rw [hw', o2]; clear hw' w'
  go_wp2_with fail
  refine (netBuild_any h0 nt none a1 a2 0 c1 c2 [] due stp w (fun h => by simp at h) r1 r2 hh ht (by simp) l1 l2 HD.out HS.out).mono ?_
  rintro e w1 ⟨rfl, I1⟩
  simp only [List.append_nil] at I1
  have b1 := I1.bel
  go_wp2_with fail
  by_cases hz : nt = 0
  · subst hz
    simp only [List.replicate_zero] at I1
    obtain ⟨A1, u1⟩ := I1.at HD.out (fun _ _ _ => rfl)
    have e0 : mx 0 (lastOf due) = lastOf due := by unfold mx; split <;> omega
    have E0 : Hid _ := e0
    clear e0
    refine (run_any w1 hway (bd_build _) u1 (by omega) A1).mono ?_
    rintro e w3 ⟨rfl, aq, cq, s, ck, k1, k2, k3, k4⟩
    have HF : Hid (Below w.heap.size w w3) := b1.trans k4.below
    have rr1 := r1.below HF.out
    clear I1 A1 hway hway1
    go_wp2_with fail
    refine (netLast_any _ _ due _ rr1 l1).mono ?_; rintro e w' ⟨rfl, hw'⟩; rw [hw']; clear hw' w'
    go_wp2_with fail
    refine (zzMax_any _ _ _).mono ?_; rintro e w' ⟨rfl, hw'⟩; rw [hw', E0.out]; clear hw' w'
    go_wp2_with fail
    refine (clock_any _ _ _ _ k1.c259 k2.c2).mono ?_; rintro e w' ⟨rfl, hw'⟩; rw [hw']; clear hw' w'
    go_wp2_with fail
    refine (inTransit_any _ _ _ _ _ _ k1.c259 k2.c0).mono ?_; rintro e w' ⟨rfl, hw'⟩; rw [hw']; clear hw' w'
    go_wp2_with fail
    refine (pending_any _ _ _ _ k1.c259 k2.c4).mono ?_; rintro e w' ⟨rfl, hw'⟩; rw [hw']; clear hw' w'
    go_wp2_with fail
    refine (timersLeft_any _ _ _ _ _ k1.c259 k2.c3 k3).mono ?_; rintro e w' ⟨rfl, hw'⟩; rw [hw']; clear hw' w'
    go_wp2_with fail
    refine (holding_any _ _ k1.c260).mono ?_; rintro e w' ⟨rfl, hw'⟩; rw [hw']; clear hw' w'
    go_wp2_with fail
    go_ret
    exact ⟨rfl, HF.out⟩
  · obtain ⟨q, a1', a2', a3', a4', a5'⟩ := I1
    obtain ⟨g, cq, cur, rfl, hgB, hgg⟩ : ∃ g cq cur, q = .slice (some ⟨g, 0, none⟩) nt cq ∧ w.heap.size ≤ g ∧ w1.heap[g]? = some (.cells cur 82 (0, 0)) := by
      rcases a3'.2 with ⟨_, h0⟩ | ⟨g, cap, cur, e, h1, h2, _⟩
      · simp at h0; omega
      · exact ⟨g, cap, cur, by simpa using e, h1, h2⟩
    obtain ⟨csn, hbn⟩ := a1'.blk
    obtain ⟨es, ckm, G, D, hmm, _⟩ := id a4'
    have hst : left h0 due (h0 + 1) = due.length - cnt h0 due (h0 + 1) := by rw [left_step, left_all h0 due HD.out]
    have hpos : (0 : Int) < nt := by omega
    have m1 : 1 ≤ mx 1 (lastOf due) ∧ mx 1 (lastOf due) ≤ 65536 := by unfold mx; split <;> omega
    refine (runq_any w1 hway1 hh.1 ⟨by omega, by omega⟩ hst (bd_build _) ⟨blk_lt hbn, blk_lt a2'.blk, blk_lt hmm⟩ ⟨hgB, blk_lt hgg⟩ (by omega) a1' a2' a3' ⟨by omega, ht⟩ a4'.toC).mono ?_
    rintro e w3 ⟨rfl, aq, cq', s, ck, k1, k2, k3, k4⟩
    have HF : Hid (Below w.heap.size w w3) := b1.trans k4.below
    have rr1 := r1.below HF.out
    clear a1' a2' a3' a4' a5' hgg hbn hmm hst hway hway1
    go_wp2_with fail
    refine (netLast_any _ _ due _ rr1 l1).mono ?_; rintro e w' ⟨rfl, hw'⟩; rw [hw']; clear hw' w'
    go_wp2_with fail
    refine (zzMax_any _ _ _).mono ?_; rintro e w' ⟨rfl, hw'⟩; rw [hw']; clear hw' w'
    go_wp2_with fail
    refine (clock_any _ _ _ _ k1.c259 k2.c2).mono ?_; rintro e w' ⟨rfl, hw'⟩; rw [hw']; clear hw' w'
    go_wp2_with fail
    refine (inTransit_any _ _ _ _ _ _ k1.c259 k2.c0).mono ?_; rintro e w' ⟨rfl, hw'⟩; rw [hw']; clear hw' w'
    go_wp2_with fail
    refine (pending_any _ _ _ _ k1.c259 k2.c4).mono ?_; rintro e w' ⟨rfl, hw'⟩; rw [hw']; clear hw' w'
    go_wp2_with fail
    refine (timersLeft_any _ _ _ _ _ k1.c259 k2.c3 k3).mono ?_; rintro e w' ⟨rfl, hw'⟩; rw [hw']; clear hw' w'
    go_wp2_with fail
    refine (holding_any _ _ k1.c260).mono ?_; rintro e w' ⟨rfl, hw'⟩; rw [hw']; clear hw' w'
    go_wp2_with fail
    go_ret
    exact ⟨rfl, HF.out⟩

set_option maxHeartbeats 1600000 in
theorem ends_long (h0 t : Int) (a1 a2 : Option Addr) (n1 n2 c1 c2 : Nat) (w : World) (m1 : n1 ≤ 9223372036854775807) (m2 : n2 ≤ 9223372036854775807) (h : 4096 < n1 ∨ 4096 < n2) :
    Calls Try.prog 3 #[.int .i64 h0, .int .i64 t, .slice a1 n1 c1, .slice a2 n2 c2] w fun e w' => e = .returned (.bool true) ∧ Below w.heap.size w w' := by
  by_cases h1 : 4096 < n1
  · have d1 : (4096 : Int) < n1 := by omega
    go_enter Try.func3, Try.ntmps3
    go_wp2_with fail
    refine (bytes7_any _ _ _ _ _ _ _ _ _ (by omega) (by omega)).mono ?_
    rintro e w' ⟨b, rfl, hb, hw'⟩
    rw [hw']; clear hw' w' hb
    cases b
    all_goals
      go_wp2_with fail
      go_ret
      exact ⟨rfl, Below.refl _ _⟩
  · have d1 : decide ((4096 : Int) < n1) = false := decide_eq_false (by omega)
    have d2 : (4096 : Int) < n2 := by omega
    go_enter Try.func3, Try.ntmps3
    go_wp2_with fail
    refine (bytes7_any _ _ _ _ _ _ _ _ _ (by omega) (by omega)).mono ?_
    rintro e w' ⟨b, rfl, hb, hw'⟩
    rw [hw']; clear hw' w' hb
    cases b
    all_goals
      go_wp2_with fail
      go_ret
      exact ⟨rfl, Below.refl _ _⟩

set_option maxHeartbeats 1600000 in
theorem ends_hop (h0 t : Int) (a1 a2 : Option Addr) (n1 n2 c1 c2 : Nat) (w : World) (m1 : n1 ≤ 4096) (m2 : n2 ≤ 4096) (h : h0 < 0 ∨ 1073741824 < h0 ∨ t < 0 ∨ 4096 < t) :
    Calls Try.prog 3 #[.int .i64 h0, .int .i64 t, .slice a1 n1 c1, .slice a2 n2 c2] w fun e w' => e = .returned (.bool true) ∧ Below w.heap.size w w' := by
  have d1 : decide ((4096 : Int) < n1) = false := decide_eq_false (by omega)
  have d2 : decide ((4096 : Int) < n2) = false := decide_eq_false (by omega)
  by_cases h1 : h0 < 0
  · go_enter Try.func3, Try.ntmps3
    go_wp2_with fail
    refine (bytes7_any _ _ _ _ _ _ _ _ _ (by omega) (by omega)).mono ?_
    rintro e w' ⟨b, rfl, hb, hw'⟩
    rw [hw', hb ⟨m1, m2⟩]; clear hw' w' hb b
    go_wp2_with fail
    go_ret
    exact ⟨rfl, Below.refl _ _⟩
  · have d3 : decide (h0 < 0) = false := decide_eq_false h1
    by_cases h2 : 1073741824 < h0
    · go_enter Try.func3, Try.ntmps3
      go_wp2_with fail
      refine (bytes7_any _ _ _ _ _ _ _ _ _ (by omega) (by omega)).mono ?_
      rintro e w' ⟨b, rfl, hb, hw'⟩
      rw [hw', hb ⟨m1, m2⟩]; clear hw' w' hb b
      go_wp2_with fail
      go_ret
      exact ⟨rfl, Below.refl _ _⟩
    · have d4 : decide ((1073741824 : Int) < h0) = false := decide_eq_false h2
      by_cases h3 : t < 0
      · go_enter Try.func3, Try.ntmps3
        go_wp2_with fail
        refine (bytes7_any _ _ _ _ _ _ _ _ _ (by omega) (by omega)).mono ?_
        rintro e w' ⟨b, rfl, hb, hw'⟩
        rw [hw', hb ⟨m1, m2⟩]; clear hw' w' hb b
        go_wp2_with fail
        go_ret
        exact ⟨rfl, Below.refl _ _⟩
      · have d5 : decide (t < 0) = false := decide_eq_false h3
        have d6 : 4096 < t := by omega
        go_enter Try.func3, Try.ntmps3
        go_wp2_with fail
        refine (bytes7_any _ _ _ _ _ _ _ _ _ (by omega) (by omega)).mono ?_
        rintro e w' ⟨b, rfl, hb, hw'⟩
        rw [hw', hb ⟨m1, m2⟩]; clear hw' w' hb b
        go_wp2_with fail
        go_ret
        exact ⟨rfl, Below.refl _ _⟩

set_option maxHeartbeats 1600000 in
theorem ends_off (h0 t : Int) (a1 a2 : Option Addr) (c1 c2 : Nat) (due stp : List Int) (w : World) (r1 : RowA w a1 due) (r2 : RowA w a2 stp) (hh : 0 ≤ h0 ∧ h0 ≤ 1073741824) (ht : 0 ≤ t ∧ t ≤ 4096) (l1 : due.length ≤ 4096) (l2 : stp.length ≤ 4096)
    (ho : offOK due = false ∨ offOK stp = false) :
    Calls Try.prog 3 #[.int .i64 h0, .int .i64 t, .slice a1 due.length c1, .slice a2 stp.length c2] w fun e w' => e = .returned (.bool true) ∧ Below w.heap.size w w' := by
  have d1 : decide ((4096 : Int) < due.length) = false := decide_eq_false (by omega)
  have d2 : decide ((4096 : Int) < stp.length) = false := decide_eq_false (by omega)
  have d3 : decide (h0 < 0) = false := decide_eq_false (by omega)
  have d4 : decide ((1073741824 : Int) < h0) = false := decide_eq_false (by omega)
  have d5 : decide (t < 0) = false := decide_eq_false (by omega)
  have d6 : decide ((4096 : Int) < t) = false := decide_eq_false (by omega)
  cases o1 : offOK due
  · go_enter Try.func3, Try.ntmps3
    go_wp2_with fail
    refine (bytes7_any _ _ _ _ _ _ _ _ _ (by omega) (by omega)).mono ?_
    rintro e w' ⟨b, rfl, hb, hw'⟩
    rw [hw', hb ⟨l1, l2⟩]; clear hw' w' hb b
    go_wp2_with fail
    refine (netOffsetsOK_any _ _ due _ r1 l1).mono ?_; rintro e w' ⟨rfl, hw'⟩; rw [hw', o1]; clear hw' w'
    go_wp2_with fail
    go_ret
    exact ⟨rfl, Below.refl _ _⟩
  · have o2 : offOK stp = false := by
      rcases ho with h | h
      · rw [o1] at h; cases h
      · exact h
    clear ho
    go_enter Try.func3, Try.ntmps3
    go_wp2_with fail
    refine (bytes7_any _ _ _ _ _ _ _ _ _ (by omega) (by omega)).mono ?_
    rintro e w' ⟨b, rfl, hb, hw'⟩
    rw [hw', hb ⟨l1, l2⟩]; clear hw' w' hb b
    go_wp2_with fail
    refine (netOffsetsOK_any _ _ due _ r1 l1).mono ?_; rintro e w' ⟨rfl, hw'⟩; rw [hw', o1]; clear hw' w'
    go_wp2_with fail
    refine (netOffsetsOK_any _ _ stp _ r2 l2).mono ?_; rintro e w' ⟨rfl, hw'⟩; rw [hw', o2]; clear hw' w'
    go_wp2_with fail
    go_ret
    exact ⟨rfl, Below.refl _ _⟩
end Go.Proofs.Qxb6612833a

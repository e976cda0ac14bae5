/- The walk of FnRunAgreesWithRunForToLastTimer. -/
import Derived.Test.Qxb6612833aPlain
namespace Go.Proofs.Qxb6612833a
open Go.ChangeShapes Go.WideShapes Go.ChangeAt Go.RowKit

theorem RowA.below {w w' : World} {a : Option Addr} {zs : List Int} (h : RowA w a zs) (hb : Below w.heap.size w w') : RowA w' a zs := by
  intro h0
  obtain ⟨b, off, e, hl, hc⟩ := h h0
  exact ⟨b, off, e, Nat.lt_of_lt_of_le hl hb.size, fun k hk => (hb.cell (p := ⟨b, off + k, none⟩) hl).trans (hc k hk)⟩

/-- From block B on, up to what was there, the world is as it was. -/
def From (B : Nat) (w w' : World) : Prop := ∀ b, B ≤ b → b < w.heap.size → w'.heap[b]? = w.heap[b]?
theorem From.of_below {B : Nat} {w w' : World} (h : Below w.heap.size w w') : From B w w' := fun b _ hb => h.block b hb
theorem From.of_betw {B C : Nat} {w w' : World} (h : Betw B (fun b => b < C) w w') : From C w w' := fun b h1 h2 => h.above b (by omega) h2

theorem TGC.from {w w' : World} {B : Nat} {C : Nat → Prop} {bm : Nat} {lo : Int} {N : Nat} {L : Int → Nat} (h : TGC w B C bm lo N L) (hf : From B w w') (hm : B ≤ bm) : TGC w' B C bm lo N L := by
  obtain ⟨es, ck, G, D, h1, h2, h3, h4, h5⟩ := h
  refine ⟨es, ck, G, D, (hf bm hm (blk_lt h1)).trans h1, h2, ⟨fun k hlo v hv => ?_, h3.nil, h3.apart, h3.nodup, h3.own, fun k t hlo ht => ?_, h3.len⟩, h4, h5⟩
  · obtain ⟨a1, a2⟩ := h3.row k hlo v hv
    refine ⟨a1, ?_⟩
    rcases a2 with a2 | ⟨g, cap, cur, hv, hg, hh, r⟩
    · exact .inl a2
    · exact .inr ⟨g, cap, cur, hv, hg, (hf g hg (blk_lt hh)).trans hh, r⟩
  · obtain ⟨a1, f, l, hf', hh⟩ := h3.tm k t hlo ht
    exact ⟨a1, f, l, hf', (hf t a1 (blk_lt hh)).trans hh⟩
theorem NetB.from {w w' : World} {B bn bl bmem : Nat} {a : Value} (h : NetB w bn bl bmem a) (hf : From B w w') (h1 : B ≤ bn) (h2 : B ≤ bmem) : NetB w' bn bl bmem a := by
  obtain ⟨cs, hbn⟩ := h.blk
  exact h.grown (hf bn h1 (blk_lt hbn)) (hf bmem h2 (blk_lt h.mem))
theorem LaneB.from {w w' : World} {B bl bm : Nat} {q s : Value} {h p : Int} (hl : LaneB w bl bm q s h p) (hf : From B w w') (h1 : B ≤ bl) : LaneB w' bl bm q s h p := hl.grown (hf bl h1 (blk_lt hl.blk))

/-- A network that netBuild has made, with no message in transit, stands at its first hop. -/
theorem BI.at {B : Nat} {h0 : Int} {N : Nat} {ds : List Int} {w0 w w' : World} (h : BI B h0 ds.length N (cnt h0 ds) [] w0 w) (hd : ∀ d ∈ ds, 1 ≤ d ∧ d ≤ 65536) (hf : From B w w') :
    At B (fun b => b < w.heap.size) (B + 3) (B + 2) B (B + 1) N (.pointer none) (cnt h0 ds) (left h0 ds) h0 w' w' ∧ (B + 3 < w.heap.size ∧ B + 2 < w.heap.size ∧ B + 1 < w.heap.size) := by
  obtain ⟨q, a1, a2, a3, a4, a5⟩ := h
  obtain ⟨aq, cq, hq⟩ : ∃ aq cq, q = .slice aq 0 cq := by
    rcases a3.2 with ⟨e, _⟩ | ⟨g, cap, cur, e, _⟩
    · exact ⟨_, _, e⟩
    · exact ⟨_, _, e⟩
  subst hq
  obtain ⟨cs, hbn⟩ := a1.blk
  refine ⟨⟨aq, cq, none, 0, 0, a1.from hf (by omega) (by omega), ?_, a4.toC.from hf (by omega), Betw.refl _ _ _⟩, blk_lt hbn, blk_lt a2.blk, ?_⟩
  · rw [left_all h0 ds hd]
    exact a2.from hf (by omega)
  · obtain ⟨es, ck, G, D, h1, _⟩ := a4
    exact blk_lt h1

set_option maxRecDepth 100000 in
set_option maxHeartbeats 3200000 in
theorem agrees_main (h0 : Int) (a1 a2 : Option Addr) (c1 c2 : Nat) (due stp : List Int) (w : World) (r1 : RowA w a1 due) (r2 : RowA w a2 stp) (hh : 0 ≤ h0 ∧ h0 ≤ 1073741824) (l1 : due.length ≤ 4096) (l2 : stp.length ≤ 4096)
    (o1 : offOK due = true) (o2 : offOK stp = true) :
    Calls Try.prog 4 #[.int .i64 h0, .slice a1 due.length c1, .slice a2 stp.length c2] w fun e w' => e = .returned (.bool true) ∧ Below w.heap.size w w' := by
  have hd := (offOK_iff due).1 o1
  have hs := (offOK_iff stp).1 o2
  have hlast := lastOf_bd due hd
  have hway := way h0 due hh l1 hd
  have HD : Hid _ := hd
  have HS : Hid _ := hs
  clear hd hs
  have d1 : decide ((4096 : Int) < due.length) = false := decide_eq_false (by omega)
  have d2 : decide ((4096 : Int) < stp.length) = false := decide_eq_false (by omega)
  have d3 : decide (h0 < 0) = false := decide_eq_false (by omega)
  have d4 : decide ((1073741824 : Int) < h0) = false := decide_eq_false (by omega)
  go_enter Try.func4, Try.ntmps4
  go_wp2_with fail
  refine (bytes18_any _ _ _ _ _ _ _ _ (by omega) (by omega)).mono ?_
  rintro e w' ⟨b, rfl, hb, hw'⟩
  rw [hw', hb ⟨l1, l2⟩]; clear hw' w' hb b
  go_wp2_with fail
  refine (netOffsetsOK_any _ _ due _ r1 l1).mono ?_; rintro e w' ⟨rfl, hw'⟩; rw [hw', o1]; clear hw' w'
  go_wp2_with fail
  refine (netOffsetsOK_any _ _ stp _ r2 l2).mono ?_; rintro e w' ⟨rfl, hw'⟩; rw [hw', o2]; clear hw' w'
  go_wp2_with fail
  refine (netBuild_any h0 0 none a1 a2 0 c1 c2 [] due stp w (fun h => by simp at h) r1 r2 hh (by omega) (by simp) l1 l2 HD.out HS.out).mono ?_
  rintro e w1 ⟨rfl, I1⟩
  simp only [List.replicate_zero, List.nil_append] at I1
  have b1 := I1.bel
  go_wp2_with fail
  refine (netBuild_any h0 0 none a1 a2 0 c1 c2 [] due stp w1 (fun h => by simp at h) (r1.below b1) (r2.below b1) hh (by omega) (by simp) l1 l2 HD.out HS.out).mono ?_
  rintro e w2 ⟨rfl, I2⟩
  simp only [List.replicate_zero, List.nil_append] at I2
  have b2 := I2.bel
  have hsz1 := b1.size
  have hsz2 := b2.size
  go_wp2_with fail
  refine (netLast_any _ _ due _ ((r1.below b1).below b2) l1).mono ?_; rintro e w' ⟨rfl, hw'⟩; rw [hw']; clear hw' w'
  obtain ⟨A1, u1⟩ := I1.at HD.out (From.of_below b2)
  go_wp2_with fail
  refine (run_any w2 hway (bd_build _) u1 (by omega) A1).mono ?_
  rintro e w3 ⟨rfl, aq, cq, s, ck, k1, k2, k3, k4⟩
  have hsz3 := k4.below.size
  obtain ⟨A2, u2⟩ := I2.at HD.out (From.of_betw k4)
  go_wp2_with fail
  refine (runFor_any (lastOf due) w3 hway rfl (bd_build _) u2 (by omega) A2).mono ?_
  rintro e w4 ⟨rfl, aq', cq', s', ck', m1, m2, m3, m4⟩
  have hb : ∀ b, b < w1.heap.size → w4.heap[b]? = w3.heap[b]? := fun b hb => m4.below.block b hb
  obtain ⟨cs, hbn⟩ := k1.blk
  have p1 : NetB w4 (w.heap.size + 3) (w.heap.size + 2) w.heap.size (.pointer none) := k1.grown (hb _ u1.1) (hb _ (by omega))
  have p2 : LaneB w4 (w.heap.size + 2) (w.heap.size + 1) (.slice aq 0 cq) s (h0 + lastOf due) 0 := k2.grown (hb _ u1.2.1)
  have p3 : w4.heap[w.heap.size + 1]? = some (.map #[] ck) := (hb _ u1.2.2).trans k3
  have HF : Hid (Below w.heap.size w w4) := ((b1.trans (b2.mono hsz1)).trans k4.below).trans (m4.below.mono hsz1)
  clear k1 k2 k3 k4 I1 I2 A1 A2 b1 b2
  go_wp2_with fail
  refine (clock_any _ _ _ _ p1.c259 p2.c2).mono ?_; rintro e w' ⟨rfl, hw'⟩; rw [hw']; clear hw' w'
  go_wp2_with fail
  refine (clock_any _ _ _ _ m1.c259 m2.c2).mono ?_; rintro e w' ⟨rfl, hw'⟩; rw [hw']; clear hw' w'
  go_wp2_with fail
  refine (pending_any _ _ _ _ p1.c259 p2.c4).mono ?_; rintro e w' ⟨rfl, hw'⟩; rw [hw']; clear hw' w'
  go_wp2_with fail
  refine (pending_any _ _ _ _ m1.c259 m2.c4).mono ?_; rintro e w' ⟨rfl, hw'⟩; rw [hw']; clear hw' w'
  go_wp2_with fail
  refine (timersLeft_any _ _ _ _ _ p1.c259 p2.c3 p3).mono ?_; rintro e w' ⟨rfl, hw'⟩; rw [hw']; clear hw' w'
  go_wp2_with fail
  refine (timersLeft_any _ _ _ _ _ m1.c259 m2.c3 m3).mono ?_; rintro e w' ⟨rfl, hw'⟩; rw [hw']; clear hw' w'
  go_wp2_with fail
  go_ret
  exact ⟨rfl, HF.out⟩

set_option maxHeartbeats 1600000 in
theorem agrees_long (h0 : Int) (a1 a2 : Option Addr) (n1 n2 c1 c2 : Nat) (w : World) (m1 : n1 ≤ 9223372036854775807) (m2 : n2 ≤ 9223372036854775807) (h : 4096 < n1 ∨ 4096 < n2) :
    Calls Try.prog 4 #[.int .i64 h0, .slice a1 n1 c1, .slice a2 n2 c2] w fun e w' => e = .returned (.bool true) ∧ Below w.heap.size w w' := by
  by_cases h1 : 4096 < n1
  · have d1 : (4096 : Int) < n1 := by omega
    go_enter Try.func4, Try.ntmps4
    go_wp2_with fail
    refine (bytes18_any _ _ _ _ _ _ _ _ (by omega) (by omega)).mono ?_
    rintro e w' ⟨b, rfl, hb, hw'⟩
    rw [hw']; clear hw' w' hb
    cases b
    all_goals
      go_wp2_with fail
      go_ret
      exact ⟨rfl, Below.refl _ _⟩
  · have d1 : decide ((4096 : Int) < n1) = false := decide_eq_false (by omega)
    have d2 : (4096 : Int) < n2 := by omega
    go_enter Try.func4, Try.ntmps4
    go_wp2_with fail
    refine (bytes18_any _ _ _ _ _ _ _ _ (by omega) (by omega)).mono ?_
    rintro e w' ⟨b, rfl, hb, hw'⟩
    rw [hw']; clear hw' w' hb
    cases b
    all_goals
      go_wp2_with fail
      go_ret
      exact ⟨rfl, Below.refl _ _⟩

set_option maxHeartbeats 1600000 in
theorem agrees_hop (h0 : Int) (a1 a2 : Option Addr) (n1 n2 c1 c2 : Nat) (w : World) (m1 : n1 ≤ 4096) (m2 : n2 ≤ 4096) (h : h0 < 0 ∨ 1073741824 < h0) :
    Calls Try.prog 4 #[.int .i64 h0, .slice a1 n1 c1, .slice a2 n2 c2] w fun e w' => e = .returned (.bool true) ∧ Below w.heap.size w w' := by
  have d1 : decide ((4096 : Int) < n1) = false := decide_eq_false (by omega)
  have d2 : decide ((4096 : Int) < n2) = false := decide_eq_false (by omega)
  by_cases h1 : h0 < 0
  · go_enter Try.func4, Try.ntmps4
    go_wp2_with fail
    refine (bytes18_any _ _ _ _ _ _ _ _ (by omega) (by omega)).mono ?_
    rintro e w' ⟨b, rfl, hb, hw'⟩
    rw [hw', hb ⟨m1, m2⟩]; clear hw' w' hb b
    go_wp2_with fail
    go_ret
    exact ⟨rfl, Below.refl _ _⟩
  · have d3 : decide (h0 < 0) = false := decide_eq_false h1
    have d4 : 1073741824 < h0 := by omega
    go_enter Try.func4, Try.ntmps4
    go_wp2_with fail
    refine (bytes18_any _ _ _ _ _ _ _ _ (by omega) (by omega)).mono ?_
    rintro e w' ⟨b, rfl, hb, hw'⟩
    rw [hw', hb ⟨m1, m2⟩]; clear hw' w' hb b
    go_wp2_with fail
    go_ret
    exact ⟨rfl, Below.refl _ _⟩

set_option maxHeartbeats 1600000 in
theorem agrees_off (h0 : Int) (a1 a2 : Option Addr) (c1 c2 : Nat) (due stp : List Int) (w : World) (r1 : RowA w a1 due) (r2 : RowA w a2 stp) (hh : 0 ≤ h0 ∧ h0 ≤ 1073741824) (l1 : due.length ≤ 4096) (l2 : stp.length ≤ 4096)
    (ho : offOK due = false ∨ offOK stp = false) :
    Calls Try.prog 4 #[.int .i64 h0, .slice a1 due.length c1, .slice a2 stp.length c2] w fun e w' => e = .returned (.bool true) ∧ Below w.heap.size w w' := by
  have d1 : decide ((4096 : Int) < due.length) = false := decide_eq_false (by omega)
  have d2 : decide ((4096 : Int) < stp.length) = false := decide_eq_false (by omega)
  have d3 : decide (h0 < 0) = false := decide_eq_false (by omega)
  have d4 : decide ((1073741824 : Int) < h0) = false := decide_eq_false (by omega)
  cases o1 : offOK due
  · go_enter Try.func4, Try.ntmps4
    go_wp2_with fail
    refine (bytes18_any _ _ _ _ _ _ _ _ (by omega) (by omega)).mono ?_
    rintro e w' ⟨b, rfl, hb, hw'⟩
    rw [hw', hb ⟨l1, l2⟩]; clear hw' w' hb b
    go_wp2_with fail
    refine (netOffsetsOK_any _ _ due _ r1 l1).mono ?_; rintro e w' ⟨rfl, hw'⟩; rw [hw', o1]; clear hw' w'
    go_wp2_with fail
    go_ret
    exact ⟨rfl, Below.refl _ _⟩
  · have o2 : offOK stp = false := by
      rcases ho with h | h
      · rw [o1] at h; cases h
      · exact h
    clear ho
    go_enter Try.func4, Try.ntmps4
    go_wp2_with fail
    refine (bytes18_any _ _ _ _ _ _ _ _ (by omega) (by omega)).mono ?_
    rintro e w' ⟨b, rfl, hb, hw'⟩
    rw [hw', hb ⟨l1, l2⟩]; clear hw' w' hb b
    go_wp2_with fail
    refine (netOffsetsOK_any _ _ due _ r1 l1).mono ?_; rintro e w' ⟨rfl, hw'⟩; rw [hw', o1]; clear hw' w'
    go_wp2_with fail
    refine (netOffsetsOK_any _ _ stp _ r2 l2).mono ?_; rintro e w' ⟨rfl, hw'⟩; rw [hw', o2]; clear hw' w'
    go_wp2_with fail
    go_ret
    exact ⟨rfl, Below.refl _ _⟩

end Go.Proofs.Qxb6612833a

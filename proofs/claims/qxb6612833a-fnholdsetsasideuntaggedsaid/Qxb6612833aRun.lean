/- 'Run' and 'RunFor' where no message is in transit. -/
import Derived.Test.Qxb6612833aAdvance
import Derived.Deep.LoopGhost
namespace Go.Proofs.Qxb6612833a
open Go.ChangeShapes Go.WideShapes Go.ChangeAt Go.RowKit
open Go.ChangeMaps (setBlock)

/-- The hop that a lane's block holds, for a loop's measure. -/
def hopOf (bl : Nat) (w : World) : Int := match w.cell? ⟨bl, 2, none⟩ with
  | some (.int _ x) => x
  | _ => 0
theorem LaneB.hopOf {w : World} {bl bm : Nat} {q s : Value} {h p : Int} (hl : LaneB w bl bm q s h p) : Qxb6612833a.hopOf bl w = h := by
  unfold Qxb6612833a.hopOf; rw [hl.c2]

/-- A run of a lane from hop h to hop E: P x timers are left at hop x. -/
structure Way (L : Int → Nat) (P : Int → Int) (h E : Int) : Prop where
  le : h ≤ E
  h0 : 0 ≤ h
  hE : E ≤ 4294967296
  step : ∀ x, h ≤ x → x < E → P (x + 1) = P x - L (x + 1)
  pos : ∀ x, h ≤ x → x < E → 0 < P x
  bd : ∀ x, h ≤ x → x ≤ E → 0 ≤ P x ∧ P x ≤ 100000
  fin : P E = 0

/-- At hop x of the way, no message in transit. -/
def At (B : Nat) (C : Nat → Prop) (bn bl bmem bm N : Nat) (asd : Value) (L : Int → Nat) (P : Int → Int) (x : Int) (w0 w : World) : Prop :=
  ∃ aq cq aS ns cs, NetB w bn bl bmem asd ∧ LaneB w bl bm (.slice aq 0 cq) (.slice aS ns cs) x (P x) ∧ TGC w B C bm x N L ∧ Betw B C w0 w

set_option maxRecDepth 100000 in
set_option maxHeartbeats 3200000 in
theorem run_any {B : Nat} {C : Nat → Prop} {bn bl bmem bm N : Nat} {L : Int → Nat} {P : Int → Int} {h E : Int} (w : World) (hw : Way L P h E) (hb : Bd B bn bl bm bmem) (hc : C bn ∧ C bl ∧ C bm) (hN : N ≤ 100000) (hA : At B C bn bl bmem bm N (.pointer none) L P h w w) :
    Calls Try.prog 10 #[.pointer (some ⟨bn, 0, none⟩)] w fun e w' => e = .returned (.tuple #[]) ∧ ∃ aq cq s ck, NetB w' bn bl bmem (.pointer none) ∧ LaneB w' bl bm (.slice aq 0 cq) s E 0 ∧ w'.heap[bm]? = some (.map #[] ck) ∧ Betw B C w w' := by
  obtain ⟨aq, cq, aS, ns, cs, hn, hl, ht, hbel⟩ := hA
  have c259 := hn.c259
  have c260 := hn.c260
  have c1 := hn.c1
  have f1 := hn.fr 1
  have HA : Hid (At B C bn bl bmem bm N (.pointer none) L P h w w) := ⟨aq, cq, aS, ns, cs, hn, hl, ht, hbel⟩
  clear hn hl ht hbel
  go_enter Try.func10, Try.ntmps10
  go_wp2_with fail
  refine (handRefused_any bn _ c1 f1).mono ?_; rintro e w' ⟨rfl, hw'⟩; rw [hw']; clear hw' w'
  go_wp2_with fail
  go_loopw [19] (fun _ wr => ∃ x, h ≤ x ∧ x ≤ E ∧ At B C bn bl bmem bm N (.pointer none) L P x w wr) (fun _ wr => (E - hopOf bl wr).toNat)
  case atStart => exact ⟨h, Int.le_refl _, hw.le, HA.out⟩
  case round =>
    obtain ⟨x, hx1, hx2, aq, cq, aS, ns, cs, hn, hl, ht, hbel⟩ := hrel
    have bd := hw.bd x hx1 hx2
    by_cases hlt : x < E
    · have hpos := hw.pos x hx1 hlt
      have hbz : (decide (0 < 0) || decide (0 < P x)) = true := by simp [hpos]
      go_wp2_with fail
      refine (busy_any bl aq 0 cq (P x) _ hl.c0 hl.c4).mono ?_; rintro e w' ⟨rfl, hw'⟩; rw [hw', hbz]; clear hw' w'
      go_wp2_with fail
      refine (advance_any _ ⟨⟨hb.n, hc.1⟩, ⟨hb.l, hc.2.1⟩, ⟨hb.m, hc.2.2⟩⟩ hb.ne hn hl ht ⟨by have := hw.h0; omega, by have := hw.hE; omega⟩ bd hN).mono ?_
      rintro e w' ⟨rfl, k1, k2, k3, k4⟩
      have hop1 := hl.hopOf
      have hop2 := k2.hopOf
      have hst := hw.step x hx1 hlt
      go_wp2_with fail
      go_roundw
      case rel => exact ⟨x + 1, by omega, by omega, aS, cs, aq, 0, cq, k1, by rw [hst]; exact k2, k3, hbel.trans k4⟩
      case measure => rw [hop1, hop2]; omega
    · have e : x = E := by omega
      subst e
      have hz := hw.fin
      have hbz : (decide (0 < 0) || decide (0 < P x)) = false := by simp [hz]
      have c3 := hl.c3
      obtain ⟨es, ck, G, D, h1, h2, h3, h4, h5⟩ := ht
      have hclr := fun ty => run_clr h1 ty
      go_wp2_with fail
      refine (busy_any bl aq 0 cq (P x) _ hl.c0 hl.c4).mono ?_; rintro e w' ⟨rfl, hw'⟩; rw [hw', hbz]; clear hw' w'
      have HF : Hid (∃ aq cq s ck', NetB (setBlock wr bm (.map #[] ck)) bn bl bmem (.pointer none) ∧ LaneB (setBlock wr bm (.map #[] ck)) bl bm (.slice aq 0 cq) s x 0 ∧ (setBlock wr bm (.map #[] ck)).heap[bm]? = some (.map #[] ck') ∧ Betw B C w (setBlock wr bm (.map #[] ck))) := by
        obtain ⟨cs0, hbn⟩ := hn.blk
        refine ⟨aq, cq, .slice aS ns cs, ck, hn.grown (setBlock_far _ (obj_ne hbn h1 (by simp))) (setBlock_far _ (Ne.symm hb.ne)), ?_, setBlock_near h1 _, hbel.setBlock ⟨hb.m, hc.2.2⟩ _⟩
        rw [hz] at hl
        exact hl.grown (setBlock_far _ (obj_ne hl.blk h1 (by simp)))
      clear hn hl h3 h4 h1 hbel HA
      go_wp2_with fail
      go_end0
      exact ⟨rfl, HF.out⟩

set_option maxRecDepth 100000 in
set_option maxHeartbeats 3200000 in
/-- 'RunFor' over a way that ends just where the hops do. -/
theorem runFor_any {B : Nat} {C : Nat → Prop} {bn bl bmem bm N : Nat} {L : Int → Nat} {P : Int → Int} {h E : Int} (hops : Int) (w : World) (hw : Way L P h E) (hops0 : h + hops = E) (hb : Bd B bn bl bm bmem) (hc : C bn ∧ C bl ∧ C bm) (hN : N ≤ 100000) (hA : At B C bn bl bmem bm N (.pointer none) L P h w w) :
    Calls Try.prog 19 #[.pointer (some ⟨bn, 0, none⟩), .int .i64 hops] w fun e w' => e = .returned (.tuple #[]) ∧ ∃ aq cq s ck, NetB w' bn bl bmem (.pointer none) ∧ LaneB w' bl bm (.slice aq 0 cq) s E 0 ∧ w'.heap[bm]? = some (.map #[] ck) ∧ Betw B C w w' := by
  obtain ⟨aq, cq, aS, ns, cs, hn, hl, ht, hbel⟩ := hA
  have b0 := hw.h0
  have b1 := hw.hE
  have b2 := hw.le
  have HE : Hid (h + hops = E) := hops0
  have hadd : h + hops ≤ 4294967296 := by omega
  have hadd0 : 0 ≤ h + hops := by omega
  clear hops0
  have c259 := hn.c259
  have c2 := hl.c2
  have c1 := hn.c1
  have f1 := hn.fr 1
  have HA : Hid (At B C bn bl bmem bm N (.pointer none) L P h w w) := ⟨aq, cq, aS, ns, cs, hn, hl, ht, hbel⟩
  clear hn hl ht hbel
  go_enter Try.func19, Try.ntmps19
  go_wp2_with fail
  refine (handRefused_any bn _ c1 f1).mono ?_; rintro e w' ⟨rfl, hw'⟩; rw [hw']; clear hw' w'
  rw [HE.out]
  go_wp2_with fail
  go_loopw [16] (fun _ wr => ∃ x, h ≤ x ∧ x ≤ E ∧ At B C bn bl bmem bm N (.pointer none) L P x w wr) (fun _ wr => (E - hopOf bl wr).toNat)
  case atStart => exact ⟨h, Int.le_refl _, hw.le, HA.out⟩
  case round =>
    obtain ⟨x, hx1, hx2, aq, cq, aS, ns, cs, hn, hl, ht, hbel⟩ := hrel
    have bd := hw.bd x hx1 hx2
    have d259 := hn.c259
    have d2 := hl.c2
    by_cases hlt : x < E
    · have hpos := hw.pos x hx1 hlt
      have hbz : (decide (0 < 0) || decide (0 < P x)) = true := by simp [hpos]
      go_wp2_with fail
      refine (busy_any bl aq 0 cq (P x) _ hl.c0 hl.c4).mono ?_; rintro e w' ⟨rfl, hw'⟩; rw [hw', hbz]; clear hw' w'
      go_wp2_with fail
      refine (advance_any _ ⟨⟨hb.n, hc.1⟩, ⟨hb.l, hc.2.1⟩, ⟨hb.m, hc.2.2⟩⟩ hb.ne hn hl ht ⟨by omega, by omega⟩ bd hN).mono ?_
      rintro e w' ⟨rfl, k1, k2, k3, k4⟩
      have hop1 := hl.hopOf
      have hop2 := k2.hopOf
      have hst := hw.step x hx1 hlt
      go_wp2_with fail
      go_roundw
      case rel => exact ⟨x + 1, by omega, by omega, aS, cs, aq, 0, cq, k1, by rw [hst]; exact k2, k3, hbel.trans k4⟩
      case measure => rw [hop1, hop2]; omega
    · have e : x = E := by omega
      clear HE HA
      subst e
      have hz := hw.fin
      have hbz : (decide (0 < 0) || decide (0 < P x)) = false := by simp [hz]
      have c3 := hl.c3
      have hxx : decide (x < x) = false := by simp
      obtain ⟨es, ck, G, D, h1, h2, h3, h4, h5⟩ := ht
      have hclr := fun ty => run_clr h1 ty
      have HF : Hid (NetB (setBlock wr bm (.map #[] ck)) bn bl bmem (.pointer none) ∧ LaneB (setBlock wr bm (.map #[] ck)) bl bm (.slice aq 0 cq) (.slice aS ns cs) x 0 ∧ (setBlock wr bm (.map #[] ck)).heap[bm]? = some (.map #[] ck) ∧ Betw B C w (setBlock wr bm (.map #[] ck))) := by
        obtain ⟨cs0, hbn⟩ := hn.blk
        refine ⟨hn.grown (setBlock_far _ (obj_ne hbn h1 (by simp))) (setBlock_far _ (Ne.symm hb.ne)), ?_, setBlock_near h1 _, hbel.setBlock ⟨hb.m, hc.2.2⟩ _⟩
        rw [hz] at hl
        exact hl.grown (setBlock_far _ (obj_ne hl.blk h1 (by simp)))
      have q259 := HF.out.1.c259
      have q2 := HF.out.2.1.c2
      have qf2 := HF.out.2.1.fr 2
      have qs := setCell_same q2
      have l0 := hl.c0
      have l4 := hl.c4
      clear hn hl h3 h4 h1 hbel
      go_wp2_with fail
      refine (busy_any bl aq 0 cq (P x) _ l0 l4).mono ?_; rintro e w' ⟨rfl, hw'⟩; rw [hw', hbz]; clear hw' w'
      go_wp2_with fail
      go_end0
      exact ⟨rfl, aq, cq, _, ck, HF.out⟩

set_option maxRecDepth 100000 in
set_option maxHeartbeats 3200000 in
/-- 'RunFor' where nothing is in transit and no timer is set: the clock alone goes on. -/
theorem runFor_idle {B bn bl bmem bm : Nat} {h : Int} {aq : Option Addr} {cq ck : Nat} {s : Value} (hops : Int) (w : World) (h0 : 0 ≤ h ∧ h ≤ 4294967296) (h1 : 0 ≤ hops ∧ hops ≤ 4294967296) (hb : Bd B bn bl bm bmem)
    (hn : NetB w bn bl bmem (.pointer none)) (hl : LaneB w bl bm (.slice aq 0 cq) s h 0) (hm : w.heap[bm]? = some (.map #[] ck)) :
    Calls Try.prog 19 #[.pointer (some ⟨bn, 0, none⟩), .int .i64 hops] w fun e w' => e = .returned (.tuple #[]) ∧ NetB w' bn bl bmem (.pointer none) ∧ LaneB w' bl bm (.slice aq 0 cq) s (h + hops) 0 ∧ w'.heap[bm]? = some (.map #[] ck) ∧ Below B w w' := by
  have c259 := hn.c259
  have c2 := hl.c2
  have c3 := hl.c3
  have c0 := hl.c0
  have c4 := hl.c4
  have f2 := hl.fr 2
  have c1 := hn.c1
  have f1 := hn.fr 1
  have hclr : ∀ ty, (Builtin.clear_ #[75] ty #[.map (some bm)]).run Try.prog w = .ok (.tuple #[]) w := fun ty => (run_clr hm ty).trans (by rw [setBlock_same hm])
  obtain ⟨cs0, hbn⟩ := hn.blk
  have HF : Hid (NetB (w.setCell ⟨bl, 2, none⟩ (.int .i64 (h + hops))) bn bl bmem (.pointer none) ∧ LaneB (w.setCell ⟨bl, 2, none⟩ (.int .i64 (h + hops))) bl bm (.slice aq 0 cq) s (h + hops) 0 ∧ (w.setCell ⟨bl, 2, none⟩ (.int .i64 (h + hops))).heap[bm]? = some (.map #[] ck) ∧ Below B w (w.setCell ⟨bl, 2, none⟩ (.int .i64 (h + hops)))) :=
    ⟨hn.grown (setCell_far _ (obj_ne hbn hl.blk (by simp))) (setCell_far _ (obj_ne hn.mem hl.blk (by simp))), hl.setHop _, by rw [setCell_far _ (obj_ne hm hl.blk (by simp))]; exact hm, (Below.refl _ _).setCell hb.l _⟩
  have hbz : (decide (0 < 0) || decide ((0 : Int) < 0)) = false := by simp
  clear hn hl hm hbn
  go_enter Try.func19, Try.ntmps19
  go_wp2_with fail
  refine (handRefused_any bn _ c1 f1).mono ?_; rintro e w' ⟨rfl, hw'⟩; rw [hw']; clear hw' w'
  go_wp2_with fail
  by_cases hlt : h < h + hops
  · have hd : decide (h < h + hops) = true := by simp; omega
    go_loop [16] (fun _ => True) (fun _ => 0)
    case atStart => trivial
    case round =>
      go_wp2_with fail
      refine (busy_any bl aq 0 cq 0 _ c0 c4).mono ?_; rintro e w' ⟨rfl, hw'⟩; rw [hw', hbz]; clear hw' w'
      go_wp2_with fail
      refine (busy_any bl aq 0 cq 0 _ c0 c4).mono ?_; rintro e w' ⟨rfl, hw'⟩; rw [hw', hbz]; clear hw' w'
      go_wp2_with fail
      go_end0
      exact ⟨rfl, HF.out⟩
  · have hd : decide (h < h + hops) = false := by simp; omega
    go_loop [16] (fun _ => True) (fun _ => 0)
    case atStart => trivial
    case round =>
      go_wp2_with fail
      refine (busy_any bl aq 0 cq 0 _ c0 c4).mono ?_; rintro e w' ⟨rfl, hw'⟩; rw [hw', hbz]; clear hw' w'
      go_wp2_with fail
      go_end0
      exact ⟨rfl, HF.out⟩
end Go.Proofs.Qxb6612833a

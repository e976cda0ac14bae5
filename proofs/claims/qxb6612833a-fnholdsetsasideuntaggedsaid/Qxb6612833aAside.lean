/- Run on the lane aside. -/
import Derived.Test.Qxb6612833aAdvanceQ
namespace Go.Proofs.Qxb6612833a
open Go.ChangeShapes Go.WideShapes Go.ChangeAt Go.RowKit
open Go.ChangeMaps (setBlock)

theorem TGC.start {w : World} {B bm : Nat} {C : Nat → Prop} (lo : Int) (ck : Nat) (h : w.heap[bm]? = some (.map #[] ck)) : TGC w B C bm lo 0 (fun _ => 0) :=
  ⟨#[], ck, fun _ => [], fun _ => true, h, fun e he => by simp at he, ⟨fun k _ v hv => by simp [look] at hv, fun _ _ _ => rfl, fun k k' v v' g _ _ hv => by simp [look] at hv, fun _ _ => List.nodup_nil, fun k k' t _ _ ht => by simp at ht, fun k t _ ht => by simp at ht, fun _ _ => Nat.le_refl _⟩, fun _ _ => rfl, fun k t _ ht => by simp at ht⟩

/-- What 'Run' on the lane aside may turn. -/
def Xa (bn lA mA : Nat) (qa : Value) (b : Nat) : Prop := b = bn ∨ b = lA ∨ b = mA ∨ qa.ownBlock = some b

set_option maxRecDepth 100000 in
set_option maxHeartbeats 3200000 in
/-- 'Run' while the network holds: the messages without a tag that lie aside are gone. -/
theorem runAside_any {B bn bl bmem lA mA : Nat} {qa : Value} {u : Nat} (w : World) (hB : B ≤ bn ∧ B ≤ lA ∧ B ≤ mA) (hmm : mA ≠ bmem)
    (hn : NetB w bn bl bmem (.pointer (some ⟨lA, 0, none⟩))) (hl : LaneB w lA mA qa (.slice none 0 0) 0 0) (hq : QB w B qa (List.replicate u (-1))) (hu : u ≤ 4096) (hm : w.heap[mA]? = some (.map #[] 0)) :
    Calls Try.prog 10 #[.pointer (some ⟨bn, 0, none⟩)] w fun e w' => e = .returned (.tuple #[]) ∧ NetB w' bn bl bmem (.pointer (some ⟨lA, 0, none⟩)) ∧ Betw B (Xa bn lA mA qa) w w' := by
  have c259 := hn.c259
  have c260 := hn.c260
  have c1 := hn.c1
  have f1 := hn.fr 1
  have HN : Hid (NetB w bn bl bmem (.pointer (some ⟨lA, 0, none⟩))) := hn
  have HL : Hid (LaneB w lA mA qa (.slice none 0 0) 0 0) := hl
  have HM : Hid (w.heap[mA]? = some (.map #[] 0)) := hm
  have HQ : Hid (QB w B qa (List.replicate u (-1))) := hq
  clear hn hl hq hm
  go_enter Try.func10, Try.ntmps10
  go_wp2_with fail
  refine (handRefused_any bn _ c1 f1).mono ?_; rintro e w' ⟨rfl, hw'⟩; rw [hw']; clear hw' w'
  go_wp2_with fail
  go_loopw [19] (fun _ wr => (0 < u ∧ wr = w) ∨ ∃ aq cq s x, 0 ≤ x ∧ x ≤ 1 ∧ (u = 0 ∨ x = 1) ∧ NetB wr bn bl bmem (.pointer (some ⟨lA, 0, none⟩)) ∧ LaneB wr lA mA (.slice aq 0 cq) s x 0 ∧ (∃ es ck, wr.heap[mA]? = some (.map es ck)) ∧ Betw B (Xa bn lA mA qa) w wr) (fun _ wr => (1 - hopOf lA wr).toNat)
  case atStart =>
    by_cases hz : u = 0
    · right
      subst hz
      rcases HQ.out.2 with ⟨e, _⟩ | ⟨g, cap, cur, e, _⟩
      · exact ⟨none, 0, _, 0, by omega, by omega, .inl rfl, HN.out, e ▸ HL.out, ⟨_, _, HM.out⟩, Betw.refl _ _ _⟩
      · exact ⟨_, cap, _, 0, by omega, by omega, .inl rfl, HN.out, e ▸ HL.out, ⟨_, _, HM.out⟩, Betw.refl _ _ _⟩
    · exact .inl ⟨by omega, rfl⟩
  case round =>
    rcases hrel with ⟨hpos, hrel⟩ | ⟨aq, cq, s, x, hx0, hx1, hux, hn, hl, ⟨es, ck, hm⟩, hbel⟩
    · rw [hrel]
      obtain ⟨g, cq, cur, hqa, hgB, hgg⟩ : ∃ g cq cur, qa = .slice (some ⟨g, 0, none⟩) u cq ∧ B ≤ g ∧ w.heap[g]? = some (.cells cur 82 (0, 0)) := by
        rcases HQ.out.2 with ⟨_, h0⟩ | ⟨g, cap, cur, e, h1, h2, _⟩
        · simp at h0; omega
        · exact ⟨g, cap, cur, by simpa using e, h1, h2⟩
      subst hqa
      have hbz : (decide (0 < u) || decide ((0 : Int) < 0)) = true := by simp [hpos]
      go_wp2_with fail
      refine (busy_any lA _ u cq 0 _ HL.out.c0 HL.out.c4).mono ?_; rintro e w' ⟨rfl, hw'⟩; rw [hw', hbz]; clear hw' w'
      go_wp2_with fail
      refine (advanceq_any (L := fun _ => 0) (N := 0) (C := Xa bn lA mA (.slice (some ⟨g, 0, none⟩) u cq)) _ ⟨⟨hB.1, .inl rfl⟩, ⟨hB.2.1, .inr (.inl rfl)⟩, ⟨hB.2.2, .inr (.inr (.inl rfl))⟩⟩ ⟨hgB, .inr (.inr (.inr rfl))⟩ hmm HN.out HL.out HQ.out ⟨hpos, hu⟩ (TGC.start 0 0 HM.out) ⟨by omega, by omega⟩ ⟨by omega, by omega⟩ (by omega)).mono ?_
      rintro e w' ⟨rfl, k1, k2, k3, k4⟩
      have hop1 := HL.out.hopOf
      have hop2 := k2.hopOf
      obtain ⟨es, ck, G, D, h1, _⟩ := k3
      go_wp2_with fail
      go_roundw
      case rel => exact .inr ⟨none, 0, _, 0 + 1, by omega, by omega, .inr rfl, k1, k2, ⟨es, ck, h1⟩, k4⟩
      case measure => rw [hop1, hop2]; omega
    · have hbz : (decide (0 < 0) || decide ((0 : Int) < 0)) = false := by simp
      have c3 := hl.c3
      have hclr := fun ty => run_clr hm ty
      go_wp2_with fail
      refine (busy_any lA aq 0 cq 0 _ hl.c0 hl.c4).mono ?_; rintro e w' ⟨rfl, hw'⟩; rw [hw', hbz]; clear hw' w'
      have HF : Hid (NetB (setBlock wr mA (.map #[] ck)) bn bl bmem (.pointer (some ⟨lA, 0, none⟩)) ∧ Betw B (Xa bn lA mA qa) w (setBlock wr mA (.map #[] ck))) := by
        obtain ⟨cs0, hbn⟩ := hn.blk
        exact ⟨hn.grown (setBlock_far _ (obj_ne hbn hm (by simp))) (setBlock_far _ (Ne.symm hmm)), hbel.setBlock ⟨hB.2.2, .inr (.inr (.inl rfl))⟩ _⟩
      clear hn hl hbel HN HL HM HQ hm
      go_wp2_with fail
      go_end0
      exact ⟨rfl, HF.out⟩
end Go.Proofs.Qxb6612833a

/- The walk of netBuild. -/
import Derived.Test.Qxb6612833aSend
namespace Go.Proofs.Qxb6612833a
open Go.ChangeShapes Go.WideShapes Go.ChangeAt Go.RowKit
open Go.ChangeMaps (setBlock)

def el (zs : List Int) (k : Nat) : Int := zs.getD k 0
theorem take_el (zs : List Int) (k : Nat) (h : k < zs.length) : zs.take (k + 1) = zs.take k ++ [el zs k] := by
  rw [List.take_succ_eq_append_getElem h]; simp [el, h]
theorem el_mem (zs : List Int) (k : Nat) (h : k < zs.length) : el zs k ∈ zs := by
  have : el zs k = zs[k] := by simp [el, h]
  rw [this]; exact List.getElem_mem h

/-- A slice of ints in memory that was there: its elements. -/
def RowA (w : World) (a : Option Addr) (zs : List Int) : Prop := 0 < zs.length → ∃ b off, a = some ⟨b, off, none⟩ ∧ b < w.heap.size ∧ ∀ k, k < zs.length → w.cell? ⟨b, off + k, none⟩ = some (.int .i64 (el zs k))

/-- How many of the offsets come to hop k. -/
def cnt (h0 : Int) (ds : List Int) (k : Int) : Nat := (ds.filter fun d => h0 + d == k).length
theorem cnt_snoc (h0 : Int) (ds : List Int) (d : Int) : cnt h0 (ds ++ [d]) = upd (cnt h0 ds) (h0 + d) 1 := by
  funext k
  unfold cnt upd
  rw [List.filter_append, List.length_append]
  by_cases e : k = h0 + d
  · subst e; simp
  · have : (h0 + d == k) = false := beq_eq_false_iff_ne.2 (Ne.symm e)
    simp [e, this]

/-- While the network is being built. -/
def BI (B : Nat) (h0 p : Int) (N : Nat) (L : Int → Nat) (tags : List Int) (w0 wr : World) : Prop :=
  ∃ q, NetB wr (B + 3) (B + 2) B (.pointer none) ∧ LaneB wr (B + 2) (B + 1) q (.slice none 0 0) h0 p ∧ QB wr B q tags ∧ TG wr B (B + 1) h0 N L ∧ Below B w0 wr

theorem bd_build (B : Nat) : Bd B (B + 3) (B + 2) (B + 1) B := ⟨by omega, by omega, by omega, by omega, by omega⟩

theorem BI.send {B : Nat} {h0 p : Int} {N : Nat} {L : Int → Nat} {tags : List Int} {w0 wr : World} (h : BI B h0 p N L tags w0 wr) (tag : Int) (hT : tags.length ≤ 100000) :
    Calls Try.prog 33 #[.pointer (some ⟨B + 3, 0, none⟩), .string ⟨#[97]⟩, .string ⟨#[98]⟩, .int .i64 tag] wr fun e w' => e = .returned (.tuple #[]) ∧ BI B h0 p N L (tags ++ [tag]) w0 w' := by
  obtain ⟨q, a1, a2, a3, a4, a5⟩ := h
  refine (netSend_any tag wr (bd_build B) a1 a2 a4 a3 hT).mono ?_
  rintro e w' ⟨rfl, q', b1, b2, b3, b4, b5⟩
  exact ⟨rfl, q', b1, b2, b4, b3, a5.trans b5⟩
theorem BI.timer {B : Nat} {h0 p : Int} {N : Nat} {L : Int → Nat} {tags : List Int} {w0 wr : World} (h : BI B h0 p N L tags w0 wr) (at_ : Int) (hat : h0 < at_) (hN : N ≤ 100000) (hp : 0 ≤ p ∧ p ≤ 100000) :
    Calls Try.prog 34 #[.pointer (some ⟨B + 3, 0, none⟩), .int .i64 at_] wr fun e w' => e = .returned (.tuple #[]) ∧ BI B h0 (p + 1) (N + 1) (upd L at_ 1) tags w0 w' := by
  obtain ⟨q, a1, a2, a3, a4, a5⟩ := h
  refine (netTimer_any at_ wr (bd_build B) a1 a2 a4 hat hN hp).mono ?_
  rintro e w' ⟨rfl, b1, b2, b3, b4, b5⟩
  exact ⟨rfl, q, b1, b2, a3.keep b5, b3, a5.trans b4⟩
theorem BI.stopped {B : Nat} {h0 p : Int} {N : Nat} {L : Int → Nat} {tags : List Int} {w0 wr : World} (h : BI B h0 p N L tags w0 wr) (at_ : Int) (hat : h0 < at_) (hN : N ≤ 100000) :
    Calls Try.prog 35 #[.pointer (some ⟨B + 3, 0, none⟩), .int .i64 at_] wr fun e w' => e = .returned (.tuple #[]) ∧ BI B h0 p (N + 1) L tags w0 w' := by
  obtain ⟨q, a1, a2, a3, a4, a5⟩ := h
  refine (netStopped_any at_ wr (bd_build B) a1 a2 a4 hat hN).mono ?_
  rintro e w' ⟨rfl, b1, b2, b3, b4, b5⟩
  exact ⟨rfl, q, b1, b2, a3.keep b5, b3, a5.trans b4⟩
theorem BI.bel {B : Nat} {h0 p : Int} {N : Nat} {L : Int → Nat} {tags : List Int} {w0 wr : World} (h : BI B h0 p N L tags w0 wr) : Below B w0 wr := by
  obtain ⟨q, a1, a2, a3, a4, a5⟩ := h; exact a5

set_option maxRecDepth 100000 in
set_option maxHeartbeats 3200000 in
theorem netBuild_any (h0 : Int) (nt : Nat) (a2 a3 a4 : Option Addr) (c2 c3 c4 : Nat) (tags due stp : List Int) (w : World) (r2 : RowA w a2 tags) (r3 : RowA w a3 due) (r4 : RowA w a4 stp)
    (hh : 0 ≤ h0 ∧ h0 ≤ 1073741824) (ht : nt ≤ 4096) (l2 : tags.length ≤ 4096) (l3 : due.length ≤ 4096) (l4 : stp.length ≤ 4096) (hd : ∀ d ∈ due, 1 ≤ d ∧ d ≤ 65536) (hs : ∀ d ∈ stp, 1 ≤ d ∧ d ≤ 65536) :
    Calls Try.prog 9 #[.int .i64 h0, .int .i64 nt, .slice a2 tags.length c2, .slice a3 due.length c3, .slice a4 stp.length c4] w fun e w' =>
      e = .returned (.pointer (some ⟨w.heap.size + 3, 0, none⟩)) ∧ BI w.heap.size h0 due.length (due.length + stp.length) (cnt h0 due) (List.replicate nt (-1) ++ tags) w w' := by
  go_enter Try.func9, Try.ntmps9
  go_wp2_with fail
  refine (newNet_any _).mono ?_
  rintro e w1 ⟨rfl, n1, n2, n3, n4, n5⟩
  have hne : w1.heap.size = w.heap.size + 4 := n5
  clear n5
  generalize hB : w.heap.size = B at *
  go_wp2_with fail
  refine (runFor_idle (B := B) h0 w1 (by omega) (by omega) (bd_build B) n1 n2 n3).mono ?_
  rintro e w2 ⟨rfl, m1, m2, m3, m4⟩
  rw [Int.zero_add] at m2
  go_wp2_with fail
  refine (fail_any (B + 3) B _ w2 m1.c0 m1.mem).mono ?_; rintro e w' ⟨rfl, hw'⟩; rw [hw']; clear hw' w'
  have I0 : Hid (BI B h0 0 0 (fun _ => 0) [] w w2) := ⟨_, m1, m2, QB.nil _ _, TG.start h0 0 m3, n4.trans m4⟩
  clear n1 n2 n3 n4 m1 m2 m3 m4 hne
  go_wp2_with fail
  go_loopw [12] (fun i wr => ∃ k : Nat, k ≤ nt ∧ i = .int .i64 k ∧ BI B h0 0 0 (fun _ => 0) (List.replicate k (-1)) w wr) (fun i _ => nt - (intOf i).toNat)
  case atStart => exact ⟨0, Nat.zero_le _, rfl, I0.out⟩
  case round =>
    obtain ⟨k, hk, rfl, hI⟩ := hrel
    by_cases hlt : k < nt
    · go_wp2_with fail
      refine (hI.send (-1) (by simp; omega)).mono ?_
      rintro e w3 ⟨rfl, hI3⟩
      go_wp2_with fail
      go_roundw
      case rel => exact ⟨k + 1, by omega, by go_num, by rw [List.replicate_succ']; exact hI3⟩
      case measure => simp [intOf]; omega
    · have e : k = nt := by omega
      subst e
      go_wp2_with fail
      go_loopw [13] (fun i wr => ∃ j : Nat, j ≤ tags.length ∧ i = .int .i64 j ∧ BI B h0 0 0 (fun _ => 0) (List.replicate k (-1) ++ tags.take j) w wr) (fun i _ => tags.length - (intOf i).toNat)
      case atStart => exact ⟨0, Nat.zero_le _, rfl, by simpa using hI⟩
      case round =>
        obtain ⟨j, hj, rfl, hI2⟩ := hrel
        by_cases hlt2 : j < tags.length
        · obtain ⟨b, off, rfl, hbl, hcells⟩ := r2 (by omega)
          have hcell := (hI2.bel.cell (p := ⟨b, off + j, none⟩) (by rw [← hB]; exact hbl)).trans (hcells j hlt2)
          clear hcells
          go_wp2_with fail
          refine (hI2.send (el tags j) (by simp; omega)).mono ?_
          rintro e w3 ⟨rfl, hI3⟩
          go_wp2_with fail
          go_roundw
          case rel => exact ⟨j + 1, by omega, by go_num, by rw [take_el tags j hlt2, ← List.append_assoc]; exact hI3⟩
          case measure => simp [intOf]; omega
        · have e : j = tags.length := by omega
          subst e
          rw [List.take_length] at hI2
          have HT : Hid _ := hI2
          obtain ⟨T, hT⟩ : ∃ T, T = List.replicate k (-1) ++ tags := ⟨_, rfl⟩
          rw [← hT] at hI2
          have HTT : Hid _ := hT
          clear hT HT
          go_wp2_with fail
          go_loopw [14] (fun i wr => ∃ m : Nat, m ≤ due.length ∧ i = .int .i64 m ∧ BI B h0 m m (cnt h0 (due.take m)) T w wr) (fun i _ => due.length - (intOf i).toNat)
          case atStart => exact ⟨0, Nat.zero_le _, rfl, hI2⟩
          case round =>
            obtain ⟨m, hm, rfl, hI4⟩ := hrel
            by_cases hlt3 : m < due.length
            · obtain ⟨b, off, rfl, hbl, hcells⟩ := r3 (by omega)
              have hcell := (hI4.bel.cell (p := ⟨b, off + m, none⟩) (by rw [← hB]; exact hbl)).trans (hcells m hlt3)
              have hdm := hd _ (el_mem due m hlt3)
              clear hcells
              go_wp2_with fail
              refine (hI4.timer (h0 + el due m) (by omega) (by omega) (by omega)).mono ?_
              rintro e w3 ⟨rfl, hI5⟩
              go_wp2_with fail
              go_roundw
              case rel => exact ⟨m + 1, by omega, by go_num, by rw [take_el due m hlt3, cnt_snoc]; exact hI5⟩
              case measure => simp [intOf]; omega
            · have e : m = due.length := by omega
              subst e
              rw [List.take_length] at hI4
              go_wp2_with fail
              go_loopw [15] (fun i wr => ∃ r : Nat, r ≤ stp.length ∧ i = .int .i64 r ∧ BI B h0 due.length (due.length + r) (cnt h0 due) T w wr) (fun i _ => stp.length - (intOf i).toNat)
              case atStart => exact ⟨0, Nat.zero_le _, rfl, hI4⟩
              case round =>
                obtain ⟨r, hr, rfl, hI6⟩ := hrel
                by_cases hlt4 : r < stp.length
                · obtain ⟨b, off, rfl, hbl, hcells⟩ := r4 (by omega)
                  have hcell := (hI6.bel.cell (p := ⟨b, off + r, none⟩) (by rw [← hB]; exact hbl)).trans (hcells r hlt4)
                  have hdm := hs _ (el_mem stp r hlt4)
                  clear hcells
                  go_wp2_with fail
                  refine (hI6.stopped (h0 + el stp r) (by omega) (by omega)).mono ?_
                  rintro e w3 ⟨rfl, hI7⟩
                  go_wp2_with fail
                  go_roundw
                  case rel => exact ⟨r + 1, by omega, by go_num, hI7⟩
                  case measure => simp [intOf]; omega
                · have e : r = stp.length := by omega
                  subst e
                  go_wp2_with fail
                  go_ret
                  rw [HTT.out] at hI6
                  rw [hB]
                  exact ⟨rfl, hI6⟩
end Go.Proofs.Qxb6612833a

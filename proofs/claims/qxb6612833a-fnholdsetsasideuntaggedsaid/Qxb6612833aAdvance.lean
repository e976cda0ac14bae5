/- The walk of 'advance' where no message is in transit. -/
import Derived.Test.Qxb6612833aLoop
import Derived.BigQuiet
import Derived.Deep.QuietTactic
namespace Go.Proofs.Qxb6612833a
open Go.ChangeShapes Go.WideShapes Go.ChangeAt Go.RowKit
open Go.ChangeMaps (setBlock)

set_option maxRecDepth 100000 in
set_option maxHeartbeats 3200000 in
theorem advance_core (B : Nat) (C : Nat → Prop) (bn bmain bmem bl bm N : Nat) (asd : Value) (h p : Int) (aq aS : Option Addr) (cq ns cs : Nat) (av : Option Addr) (cv : Nat) (es : Array MapEntry) (ck : Nat) (G : Int → List Nat) (D : Nat → Bool) (w : World)
    (hB : (B ≤ bn ∧ C bn) ∧ (B ≤ bl ∧ C bl) ∧ (B ≤ bm ∧ C bm)) (hn : NetB w bn bmain bmem asd) (hl : LaneB w bl bm (.slice aq 0 cq) (.slice aS ns cs) h p) (hm : w.heap[bm]? = some (.map es ck)) (hik : IntKeys es.toList) (ht : TGE w B h N (fun k => look k es.toList) G D) (hC : ∀ k t, h < k → t ∈ G k → C t)
    (hv : (look (h + 1) es.toList).getD (.slice none 0 0) = .slice av (G (h + 1)).length cv) (hmm : bm ≠ bmem)
    (hh : 0 ≤ h ∧ h ≤ 4294967296) (hp : 0 ≤ p ∧ p ≤ 100000) (hN : N ≤ 100000) :
    Calls Try.prog 38 #[.pointer (some ⟨bn, 0, none⟩), .pointer (some ⟨bl, 0, none⟩)] w fun e w' => e = .returned (.tuple #[]) ∧
      ∃ es' ck', IntKeys es'.toList ∧ LI B C bn bmain bmem bl bm asd (.slice aS 0 cs) (.slice aq 0 cq) (h + 1) p N es' ck' G D (G (h + 1)) (.slice av (G (h + 1)).length cv) w w' (G (h + 1)).length := by
  have c0 := hl.c0; have c1 := hl.c1; have c2 := hl.c2; have c3 := hl.c3; have c4 := hl.c4
  have f0 := hl.fr 0; have f1 := hl.fr 1; have f2 := hl.fr 2; have f4 := hl.fr 4
  have bml : bm ≠ bl := obj_ne hm hl.blk (by simp)
  obtain ⟨w3, hw3⟩ : ∃ x, x = ((w.setCell ⟨bl, 2, none⟩ (.int .i64 (h + 1))).setCell ⟨bl, 0, none⟩ (.slice aS 0 cs)).setCell ⟨bl, 1, none⟩ (.slice aq 0 cq) := ⟨_, rfl⟩
  have l3 : LaneB w3 bl bm (.slice aS 0 cs) (.slice aq 0 cq) (h + 1) p := by rw [hw3]; exact ((hl.setHop _).setQueue _).setSpare _
  have far3 : ∀ b, b ≠ bl → w3.heap[b]? = w.heap[b]? := fun b hb => by rw [hw3, setCell_far _ hb, setCell_far _ hb, setCell_far _ hb]
  have hbl := hl.blk
  have k3 : Keep w w3 := fun b c e hb he => by
    rw [far3 b (obj_ne hb hbl (by rcases he with rfl | rfl <;> simp))]; exact hb
  obtain ⟨cs0, hbn⟩ := hn.blk
  have n3 : NetB w3 bn bmain bmem asd := hn.grown (far3 bn (obj_ne hbn hbl (by simp))) (far3 bmem (obj_ne hn.mem hbl (by simp)))
  have b3 : Betw B C w w3 := by rw [hw3]; exact (((Betw.refl _ _ _).setCell hB.2.1 _).setCell hB.2.1 _).setCell hB.2.1 _
  have m3 : w3.heap[bm]? = some (.map es ck) := (far3 bm bml).trans hm
  have t3 := ht.keep k3
  have d2 := l3.c2; have d3 := l3.c3; have d4 := l3.c4
  have hclr : ∀ (w : World) (ty : TypeId), (Builtin.clear_ #[66] ty #[.slice aq 0 cq]).run Try.prog w = .ok (.tuple #[]) w := by
    intro w ty
    cases aq <;> simp [Builtin.clear_, run_underlying Try.underlying66]
  have hlook : ∀ nq, (Instr.lookup 75 (.map (some bm)) (.int .i64 (h + 1)) false).run Try.prog (w3.drewN nq) = .ok (.slice av (G (h + 1)).length cv) (w3.drewN nq) := fun nq => (run_look (w := w3.drewN nq) (es := es) (clock := ck) m3 hik (h + 1)).trans (by rw [hv])
  have hlook0 : (Instr.lookup 75 (.map (some bm)) (.int .i64 (h + 1)) false).run Try.prog w3.drew = .ok (.slice av (G (h + 1)).length cv) w3.drew := (run_look (w := w3.drew) (es := es) (clock := ck) m3 hik (h + 1)).trans (by rw [hv])
  have hrow : w3.ownsRow B 104 1 (.slice av (G (h + 1)).length cv) (G (h + 1)).length ((G (h + 1)).map ptr) := by rw [← hv]; exact ownsRow_keep (ht.at (h + 1) (by omega)) k3
  have hlen : (G (h + 1)).length ≤ N := ht.len (h + 1) (by omega)
  have hnd : (G (h + 1)).Nodup := ht.nodup (h + 1) (by omega)
  have htm : ∀ j t, 0 ≤ j → (G (h + 1))[j]? = some t → (B ≤ t ∧ C t) ∧ TmB w3 t (D t) := fun j t _ hj => ⟨⟨(t3.tm (h + 1) t (by omega) (List.mem_of_getElem? hj)).1, hC (h + 1) t (by omega) (List.mem_of_getElem? hj)⟩, (t3.tm (h + 1) t (by omega) (List.mem_of_getElem? hj)).2⟩
  have hdis : Hid (∀ t, t ∈ G (h + 1) → ∀ k', h + 1 < k' → t ∉ G k') := fun t ht1 k' hk' ht2 => by
    have := ht.own (h + 1) k' t (by omega) (by omega) ht1 ht2
    omega
  have HW3 : Hid _ := hw3
  have HT3 : Hid _ := t3
  have HTM : Hid _ := htm
  have HND : Hid _ := hnd
  have HROW : Hid _ := hrow
  clear hw3 ht hv t3 htm hnd hrow far3 k3 hC
  generalize hts : G (h + 1) = ts at *
  go_enter Try.func38, Try.ntmps38
  go_wp2_with fail
  go_loop [31] (fun i => i = .int .i64 0) (fun _ => 0)
  case atStart => rfl
  case round =>
    subst hrel
    go_wp2_with fail
    rw [← HW3.out]
    go_quiet (fail)
    obtain ⟨es', hdel, hik', hlk'⟩ := run_del (w := (w3.drewN nq).drew) (es := es) (clock := ck) m3 hik (h + 1) 0
    have LI0 : Hid (LI B C bn bmain bmem bl bm asd (.slice aS 0 cs) (.slice aq 0 cq) (h + 1) p N es' ck G D ts (.slice av ts.length cv) w (setBlock (w3.drewN nq).drew bm (.map es' ck)) 0) := by
      have mm : (w3.drewN nq).drew.heap[bm]? = some (.map es ck) := m3
      have kk : Keep w3 (setBlock (w3.drewN nq).drew bm (.map es' ck)) := Keep.setBlock mm _
      have ffar : ∀ b, b ≠ bm → (setBlock (w3.drewN nq).drew bm (.map es' ck)).heap[b]? = w3.heap[b]? := fun b hb => setBlock_far _ hb
      have hl3 := l3.blk
      refine ⟨n3.grown (ffar bn ?_) (ffar bmem (Ne.symm hmm)), ?_, setBlock_near mm _, ?_, ownsRow_keep HROW.out kk, fun j t hj hjt => ⟨(HTM.out j t hj hjt).1, (HTM.out j t hj hjt).2.keep kk⟩, ?_⟩
      · obtain ⟨cs1, hbn1⟩ := n3.blk
        exact obj_ne hbn1 m3 (by simp)
      · have e0 : p - ((live D (ts.take 0) : Nat) : Int) = p := by simp [live]
        rw [e0]
        exact l3.grown (ffar bl (Ne.symm bml))
      · have t4 := HT3.out.keep kk
        refine ⟨fun k hk v hv => t4.row k (by omega) v ?_, fun k hk hv => t4.nil k (by omega) ?_, fun k k' v v' g hk hk' hv hv' => t4.apart k k' v v' g (by omega) (by omega) ?_ ?_, fun k hk => t4.nodup k (by omega), fun k k' t hk hk' => t4.own k k' t (by omega) (by omega), fun k t hk => t4.tm k t (by omega), fun k hk => t4.len k (by omega)⟩
        · rw [← hlk' k (by omega)]; exact hv
        · rw [← hlk' k (by omega)]; exact hv
        · rw [← hlk' k (by omega)]; exact hv
        · rw [← hlk' k' (by omega)]; exact hv'
      · have b4 : Betw B C w (w3.drewN nq).drew := ⟨⟨b3.below.os, b3.below.tape, b3.below.output, b3.below.size, b3.below.block⟩, b3.above⟩
        exact b4.setBlock hB.2.2 _
    have e2 : (w3.drewN nq).cell? ⟨bl, 2, none⟩ = some (.int .i64 (h + 1)) := d2
    have e3 : (w3.drewN nq).cell? ⟨bl, 3, none⟩ = some (.map (some bm)) := d3
    clear hlook hlook0
    generalize w3.drewN nq = w4 at *
    go_wp2_with fail
    go_region
    clear hdel
    generalize setBlock w4.drew bm (.map es' ck) = w5 at *
    go_wp2_with fail
    clear e2 e3 c0 c1 c2 c3 c4 f0 f1 f2 f4 d2 d3 d4 m3 b3 n3 hbn hbl l3 hn hl hm hclr HW3 HT3 HTM HROW hlk' hik
    go_loopw [65] (fun i wr => ∃ k : Nat, k ≤ ts.length ∧ i = .int .i64 k ∧ LI B C bn bmain bmem bl bm asd (.slice aS 0 cs) (.slice aq 0 cq) (h + 1) p N es' ck G D ts (.slice av ts.length cv) w wr k) (fun i _ => ts.length - (intOf i).toNat)
    case atStart => exact ⟨0, Nat.zero_le _, rfl, LI0.out⟩
    case round =>
      obtain ⟨k, hk, rfl, hI⟩ := hrel
      by_cases hlt : k < ts.length
      · obtain ⟨t, htk⟩ : ∃ t, ts[k]? = some t := ⟨ts[k], List.getElem?_eq_getElem hlt⟩
        have hlive : live D (ts.take k) ≤ 100000 := by
          unfold live
          have := List.length_filter_le (fun t => !D t) (ts.take k)
          have := List.length_take_le k ts
          omega
        rcases hI.row.2 with ⟨_, h0⟩ | ⟨g, cap, cur, hvv, hg, hgg, hle, _, hsz, htake⟩
        · omega
        · obtain ⟨rfl, rfl⟩ : av = some ⟨g, 0, none⟩ ∧ cv = cap := by simpa using hvv
          have hcell : wr.cell? ⟨g, k, none⟩ = some (.pointer (some ⟨t, 0, none⟩)) := by
            rw [blk_cell hgg]
            have e1 : cur.toList[k]? = (List.take (ts.length * 1) cur.toList)[k]? := by rw [List.getElem?_take, if_pos (by omega)]
            rw [← Array.getElem?_toList, e1, htake, List.getElem?_map, htk]
            rfl
          obtain ⟨hBt, f, l, hf, hh⟩ := hI.tms k t (Nat.le_refl _) htk
          have t0 : wr.cell? ⟨t, 0, none⟩ = some f := by rw [blk_cell hh]; rfl
          have t1 : wr.cell? ⟨t, 1, none⟩ = some (.int .i64 (-1)) := by rw [blk_cell hh]; rfl
          have t3 : wr.cell? ⟨t, 3, none⟩ = some (.bool (D t)) := by rw [blk_cell hh]; rfl
          have g3 : wr.frozen? ⟨t, 3, none⟩ = false := blk_frozen hh
          have c4 := hI.lane.c4
          have f4 := hI.lane.fr 4
          obtain ⟨cc, n262⟩ := hI.net.c262
          have fn262 := hI.net.fr 262
          have n1 := hI.net.c1
          have fn1 := hI.net.fr 1
          have HI : Hid _ := hI
          have HTK : Hid _ := htk
          clear hI htk hgg hh hvv htake
          cases hd : D t
          · rw [hd] at t3
            have hx := HI.out.run ⟨hB.1, hB.2.1⟩ HTK.out hd HND.out (hdis.out t (List.mem_of_getElem? HTK.out))
            obtain ⟨wx, hwx⟩ : ∃ x, x = ((wr.setCell ⟨t, 3, none⟩ (.bool true)).setCell ⟨bl, 4, none⟩ (.int .i64 (p - live D (ts.take k) - 1))).setCell ⟨bn, 262, none⟩ (.int .i64 (-1)) := ⟨_, rfl⟩
            rw [← hwx] at hx
            have x1 : wx.cell? ⟨t, 1, none⟩ = some (.int .i64 (-1)) := by rw [hwx]; go_simp
            have x0 : wx.cell? ⟨t, 0, none⟩ = some f := by rw [hwx]; go_simp
            have x262 : wx.cell? ⟨bn, 262, none⟩ = some (.int .i64 (-1)) := by rw [hwx]; go_simp
            have xf262 := hx.net.fr 262
            have y1 := hx.net.c1
            have yf1 := hx.net.fr 1
            have HX : Hid _ := hx
            have HWX : Hid _ := hwx
            clear hd hx hwx
            rcases hf with rfl | rfl
            · go_wp2_with fail
              rw [← HWX.out]
              refine (f48_any _).mono ?_; rintro e w' ⟨rfl, hw'⟩; rw [hw']; clear hw' w'
              go_wp2_with fail
              rw [setCell_same x262]
              refine (done_any _ _).mono ?_; rintro e w' ⟨rfl, hw'⟩; rw [hw']; clear hw' w'
              go_wp2_with fail
              refine (handRefused_any bn _ y1 yf1).mono ?_; rintro e w' ⟨rfl, hw'⟩; rw [hw']; clear hw' w'
              go_wp2_with fail
              go_roundw
              case rel => exact ⟨k + 1, by omega, by go_num, HX.out⟩
              case measure => simp [intOf]; omega
            · go_wp2_with fail
              rw [← HWX.out]
              refine (f49_any _).mono ?_; rintro e w' ⟨rfl, hw'⟩; rw [hw']; clear hw' w'
              go_wp2_with fail
              rw [setCell_same x262]
              refine (done_any _ _).mono ?_; rintro e w' ⟨rfl, hw'⟩; rw [hw']; clear hw' w'
              go_wp2_with fail
              refine (handRefused_any bn _ y1 yf1).mono ?_; rintro e w' ⟨rfl, hw'⟩; rw [hw']; clear hw' w'
              go_wp2_with fail
              go_roundw
              case rel => exact ⟨k + 1, by omega, by go_num, HX.out⟩
              case measure => simp [intOf]; omega
          · rw [hd] at t3
            have HD : Hid _ := hd
            clear hd
            go_wp2_with fail
            go_roundw
            case rel => exact ⟨k + 1, by omega, by go_num, HI.out.skip HTK.out HD.out⟩
            case measure => simp [intOf]; omega
      · have e : k = ts.length := by omega
        subst e
        go_wp2_with fail
        go_end0
        exact ⟨rfl, es', ck, hik', hI⟩

/-- The timers, of all of whose blocks C holds. -/
def TGC (w : World) (B : Nat) (C : Nat → Prop) (bm : Nat) (lo : Int) (N : Nat) (L : Int → Nat) : Prop :=
  ∃ es clock G D, w.heap[bm]? = some (.map es clock) ∧ IntKeys es.toList ∧ TGE w B lo N (fun k => look k es.toList) G D ∧ (∀ k, lo < k → L k = live D (G k)) ∧ ∀ k t, lo < k → t ∈ G k → C t
theorem TG.toC {w : World} {B bm : Nat} {lo : Int} {N : Nat} {L : Int → Nat} (h : TG w B bm lo N L) : TGC w B (fun b => b < w.heap.size) bm lo N L := by
  obtain ⟨es, ck, G, D, h1, h2, h3, h4⟩ := h
  refine ⟨es, ck, G, D, h1, h2, h3, h4, fun k t hk ht => ?_⟩
  obtain ⟨_, f, l, _, hh⟩ := h3.tm k t hk ht
  exact blk_lt hh
theorem TGC.keep {w w' : World} {B : Nat} {C : Nat → Prop} {bm : Nat} {lo : Int} {N : Nat} {L : Int → Nat} (h : TGC w B C bm lo N L) (hk : Keep w w') (hm : w'.heap[bm]? = w.heap[bm]?) : TGC w' B C bm lo N L := by
  obtain ⟨es, ck, G, D, h1, h2, h3, h4, h5⟩ := h
  exact ⟨es, ck, G, D, hm.trans h1, h2, h3.keep hk, h4, h5⟩

theorem advance_any {B : Nat} {C : Nat → Prop} {bn bmain bmem bl bm N : Nat} {asd : Value} {h p : Int} {aq aS : Option Addr} {cq ns cs : Nat} {L : Int → Nat} (w : World)
    (hB : (B ≤ bn ∧ C bn) ∧ (B ≤ bl ∧ C bl) ∧ (B ≤ bm ∧ C bm)) (hmm : bm ≠ bmem) (hn : NetB w bn bmain bmem asd) (hl : LaneB w bl bm (.slice aq 0 cq) (.slice aS ns cs) h p) (ht : TGC w B C bm h N L)
    (hh : 0 ≤ h ∧ h ≤ 4294967296) (hp : 0 ≤ p ∧ p ≤ 100000) (hN : N ≤ 100000) :
    Calls Try.prog 38 #[.pointer (some ⟨bn, 0, none⟩), .pointer (some ⟨bl, 0, none⟩)] w fun e w' => e = .returned (.tuple #[]) ∧ NetB w' bn bmain bmem asd ∧
      LaneB w' bl bm (.slice aS 0 cs) (.slice aq 0 cq) (h + 1) (p - L (h + 1)) ∧ TGC w' B C bm (h + 1) N L ∧ Betw B C w w' := by
  obtain ⟨es, ck, G, D, h1, h2, h3, h4, h5⟩ := ht
  obtain ⟨av, cv, hv⟩ : ∃ av cv, (look (h + 1) es.toList).getD (.slice none 0 0) = .slice av (G (h + 1)).length cv := by
    rcases (h3.at (h + 1) (by omega)).2 with ⟨e1, e2⟩ | ⟨g, cap, cur, e1, _⟩
    · exact ⟨none, 0, by rw [e1, e2]⟩
    · exact ⟨_, _, e1⟩
  refine (advance_core B C bn bmain bmem bl bm N asd h p aq aS cq ns cs av cv es ck G D w hB hn hl h1 h2 h3 h5 hv hmm hh hp hN).mono ?_
  rintro e w' ⟨rfl, es', ck', hik', hI⟩
  have e1 : ((live D ((G (h + 1)).take (G (h + 1)).length) : Nat) : Int) = L (h + 1) := by rw [List.take_length, h4 (h + 1) (by omega)]
  have hl' := hI.lane
  rw [e1] at hl'
  exact ⟨rfl, hI.net, hl', ⟨es', ck', G, D, hI.map, hik', hI.tge, fun k hk => h4 k (by omega), fun k t hk => h5 k t (by omega)⟩, hI.bel⟩
end Go.Proofs.Qxb6612833a

/- The loop of 'advance' over the timers that are due: what holds at each round's head, and that a round keeps it. -/
import Derived.Test.Qxb6612833aTimerAny
namespace Go.Proofs.Qxb6612833a
open Go.RowKit
open Go.ChangeMaps (setBlock)

/-- Only blocks from B on of which C holds, and new ones, have turned. -/
structure Betw (B : Nat) (C : Nat → Prop) (w w' : World) : Prop where
  below : Below B w w'
  above : ∀ k, ¬ C k → k < w.heap.size → w'.heap[k]? = w.heap[k]?
theorem Betw.refl (B : Nat) (C : Nat → Prop) (w : World) : Betw B C w w := ⟨Below.refl _ _, fun _ _ _ => rfl⟩
theorem Betw.trans {B : Nat} {C : Nat → Prop} {a b c : World} (h : Betw B C a b) (h' : Betw B C b c) : Betw B C a c :=
  ⟨h.below.trans h'.below, fun k h1 h2 => (h'.above k h1 (Nat.lt_of_lt_of_le h2 h.below.size)).trans (h.above k h1 h2)⟩
theorem Betw.setCell {B : Nat} {C : Nat → Prop} {a w : World} (h : Betw B C a w) {b o : Nat} (hb : B ≤ b ∧ C b) (v : Value) : Betw B C a (w.setCell ⟨b, o, none⟩ v) :=
  ⟨h.below.setCell hb.1 v, fun k h1 h2 => by
    have hne : k ≠ b := fun e => h1 (by rw [e]; exact hb.2)
    rw [setCell_far _ hne]; exact h.above k h1 h2⟩
theorem Betw.setBlock {B : Nat} {C : Nat → Prop} {a w : World} (h : Betw B C a w) {b : Nat} (hb : B ≤ b ∧ C b) (o : Obj) : Betw B C a (setBlock w b o) :=
  ⟨h.below.trans ⟨rfl, rfl, rfl, by simp [ChangeMaps.setBlock], fun k hk => setBlock_far _ (by omega)⟩, fun k h1 h2 => by
    have hne : k ≠ b := fun e => h1 (by rw [e]; exact hb.2)
    rw [setBlock_far _ hne]; exact h.above k h1 h2⟩
theorem Betw.alloc {B : Nat} {C : Nat → Prop} {a w : World} (h : Betw B C a w) (hB : B ≤ w.heap.size) (o : Obj) : Betw B C a (w.alloc o) :=
  ⟨h.below.alloc hB o, fun k h1 h2 => by rw [heap_alloc_lt _ _ _ (Nat.lt_of_lt_of_le h2 h.below.size)]; exact h.above k h1 h2⟩
theorem Betw.drew {B : Nat} {C : Nat → Prop} {a w : World} (h : Betw B C a w) : Betw B C a w.drew := ⟨h.below.drew, h.above⟩

theorem NetB.c1 {w : World} {bn bl bmem : Nat} {a : Value} (h : NetB w bn bl bmem a) : w.cell? ⟨bn, 1, none⟩ = some (.slice none 0 0) := by
  obtain ⟨cs, c, h1, h2, h3, h4, h5, h6, h7, h8⟩ := h
  rw [blk_cell h1]; exact h4
theorem NetB.c0 {w : World} {bn bl bmem : Nat} {a : Value} (h : NetB w bn bl bmem a) : w.cell? ⟨bn, 0, none⟩ = some (.map (some bmem)) := by
  obtain ⟨cs, c, h1, h2, h3, h4, h5, h6, h7, h8⟩ := h
  rw [blk_cell h1]; exact h3
theorem NetB.c260 {w : World} {bn bl bmem : Nat} {a : Value} (h : NetB w bn bl bmem a) : w.cell? ⟨bn, 260, none⟩ = some a := by
  obtain ⟨cs, c, h1, h2, h3, h4, h5, h6, h7, h8⟩ := h
  rw [blk_cell h1]; exact h6
theorem NetB.c262 {w : World} {bn bl bmem : Nat} {a : Value} (h : NetB w bn bl bmem a) : ∃ c, w.cell? ⟨bn, 262, none⟩ = some (.int .i64 c) := by
  obtain ⟨cs, c, h1, h2, h3, h4, h5, h6, h7, h8⟩ := h
  exact ⟨c, by rw [blk_cell h1]; exact h7⟩
theorem NetB.fr {w : World} {bn bl bmem : Nat} {a : Value} (h : NetB w bn bl bmem a) (o : Nat) : w.frozen? ⟨bn, o, none⟩ = false := by
  obtain ⟨cs, h1⟩ := h.blk
  exact blk_frozen h1
theorem NetB.setCause {w : World} {bn bl bmem : Nat} {a : Value} (h : NetB w bn bl bmem a) (c' : Int) : NetB (w.setCell ⟨bn, 262, none⟩ (.int .i64 c')) bn bl bmem a := by
  obtain ⟨cs, c, h1, h2, h3, h4, h5, h6, h7, h8⟩ := h
  refine ⟨cs.setIfInBounds 262 (.int .i64 c'), c', setCell_block h1 _, by simp [h2], ?_, ?_, ?_, ?_, ?_, ?_⟩
  · simp [h3]
  · simp [h4]
  · simp [h5]
  · simp [h6]
  · simp [h2]
  · rw [setCell_far _ (obj_ne h8 h1 (by simp))]; exact h8

theorem TGE.keepT {w w' : World} {B : Nat} {lo : Int} {N : Nat} {F : Int → Option Value} {G : Int → List Nat} {D : Nat → Bool} (h : TGE w B lo N F G D)
    (h4 : ∀ (b : Nat) (c : Array Value), w.heap[b]? = some (.cells c 104 (0, 0)) → w'.heap[b]? = some (.cells c 104 (0, 0)))
    (h6 : ∀ (b : Nat) (k : Int) (o : Obj), lo < k → b ∈ G k → w.heap[b]? = some o → w'.heap[b]? = some o) : TGE w' B lo N F G D := by
  refine ⟨fun k hlo v hv => ?_, h.nil, h.apart, h.nodup, h.own, fun k t hlo ht => ?_, h.len⟩
  · obtain ⟨a1, a2⟩ := h.row k hlo v hv
    refine ⟨a1, ?_⟩
    rcases a2 with a2 | ⟨g, cap, cur, hv, hg, hh, r⟩
    · exact .inl a2
    · exact .inr ⟨g, cap, cur, hv, hg, h4 _ _ hh, r⟩
  · obtain ⟨a1, f, l, hf, hh⟩ := h.tm k t hlo ht
    exact ⟨a1, f, l, hf, h6 t k _ hlo ht hh⟩

/-- At the head of round k over the timers ts: those from k on are as they were; so many of the live ones before have been run. -/
structure LI (B : Nat) (C : Nat → Prop) (bn bmain bmem bl bm : Nat) (asd q s : Value) (h1 p : Int) (N : Nat) (es : Array MapEntry) (ck : Nat) (G : Int → List Nat) (D : Nat → Bool) (ts : List Nat) (v : Value) (w0 wr : World) (k : Nat) : Prop where
  net : NetB wr bn bmain bmem asd
  lane : LaneB wr bl bm q s h1 (p - live D (ts.take k))
  map : wr.heap[bm]? = some (.map es ck)
  tge : TGE wr B h1 N (fun k => look k es.toList) G D
  row : wr.ownsRow B 104 1 v ts.length (ts.map ptr)
  tms : ∀ j t, k ≤ j → ts[j]? = some t → (B ≤ t ∧ C t) ∧ TmB wr t (D t)
  bel : Betw B C w0 wr

theorem live_take {D : Nat → Bool} {ts : List Nat} {k t : Nat} (h : ts[k]? = some t) : live D (ts.take (k + 1)) = live D (ts.take k) + (if D t then 0 else 1) := by
  have hk : k < ts.length := (List.getElem?_eq_some_iff.1 h).1
  have e : ts[k] = t := by rw [List.getElem?_eq_getElem hk] at h; simpa using h
  rw [List.take_succ_eq_append_getElem hk, e]
  unfold live
  rw [List.filter_append, List.length_append]
  cases hd : D t <;> simp [hd]

theorem LI.skip {B : Nat} {C : Nat → Prop} {bn bmain bmem bl bm : Nat} {asd q s : Value} {h1 p : Int} {N : Nat} {es : Array MapEntry} {ck : Nat} {G : Int → List Nat} {D : Nat → Bool} {ts : List Nat} {v : Value} {w0 wr : World} {k t : Nat}
    (h : LI B C bn bmain bmem bl bm asd q s h1 p N es ck G D ts v w0 wr k) (ht : ts[k]? = some t) (hd : D t = true) : LI B C bn bmain bmem bl bm asd q s h1 p N es ck G D ts v w0 wr (k + 1) := by
  have e := live_take (D := D) ht
  rw [hd] at e
  exact ⟨h.net, by rw [e]; exact h.lane, h.map, h.tge, h.row, fun j u hj hu => h.tms j u (by omega) hu, h.bel⟩

theorem LI.run {B : Nat} {C : Nat → Prop} {bn bmain bmem bl bm : Nat} {asd q s : Value} {h1 p : Int} {N : Nat} {es : Array MapEntry} {ck : Nat} {G : Int → List Nat} {D : Nat → Bool} {ts : List Nat} {v : Value} {w0 wr : World} {k t : Nat}
    (h : LI B C bn bmain bmem bl bm asd q s h1 p N es ck G D ts v w0 wr k) (hb : (B ≤ bn ∧ C bn) ∧ (B ≤ bl ∧ C bl)) (ht : ts[k]? = some t) (hd : D t = false) (hnd : ts.Nodup) (hdis : ∀ k', h1 < k' → t ∉ G k') :
    LI B C bn bmain bmem bl bm asd q s h1 p N es ck G D ts v w0 (((wr.setCell ⟨t, 3, none⟩ (.bool true)).setCell ⟨bl, 4, none⟩ (.int .i64 (p - live D (ts.take k) - 1))).setCell ⟨bn, 262, none⟩ (.int .i64 (-1))) (k + 1) := by
  have e := live_take (D := D) ht
  simp [hd] at e
  obtain ⟨hBt, f, l, hf, hh⟩ := h.tms k t (Nat.le_refl _) ht
  obtain ⟨cs, hbn⟩ := h.net.blk
  have hl := h.lane.blk
  have n1 : t ≠ bl := obj_ne hh hl (by simp)
  have n2 : t ≠ bn := obj_ne hh hbn (by simp)
  have n3 : t ≠ bm := obj_ne hh h.map (by simp)
  have n4 : bl ≠ bn := obj_ne hl hbn (by simp)
  have n5 : bm ≠ bl := obj_ne h.map hl (by simp)
  have n6 : bm ≠ bn := obj_ne h.map hbn (by simp)
  have n7 : bmem ≠ t := obj_ne h.net.mem hh (by simp)
  have n8 : bmem ≠ bl := obj_ne h.net.mem hl (by simp)
  have n9 : bmem ≠ bn := obj_ne h.net.mem hbn (by simp)
  have far : ∀ b, b ≠ t → b ≠ bl → b ≠ bn → (((wr.setCell ⟨t, 3, none⟩ (.bool true)).setCell ⟨bl, 4, none⟩ (.int .i64 (p - live D (ts.take k) - 1))).setCell ⟨bn, 262, none⟩ (.int .i64 (-1))).heap[b]? = wr.heap[b]? := fun b a1 a2 a3 => by
    rw [setCell_far _ a3, setCell_far _ a2, setCell_far _ a1]
  have net1 : NetB ((wr.setCell ⟨t, 3, none⟩ (.bool true)).setCell ⟨bl, 4, none⟩ (.int .i64 (p - live D (ts.take k) - 1))) bn bmain bmem asd := by
    refine h.net.grown ?_ ?_
    · rw [setCell_far _ (Ne.symm n4), setCell_far _ (Ne.symm n2)]
    · rw [setCell_far _ n8, setCell_far _ n7]
  have lane1 : LaneB (wr.setCell ⟨t, 3, none⟩ (.bool true)) bl bm q s h1 (p - live D (ts.take k)) := h.lane.grown (setCell_far _ (Ne.symm n1))
  refine ⟨net1.setCause _, ?_, ?_, ?_, ?_, ?_, ?_⟩
  · have l2 := lane1.setPend (p - live D (ts.take k) - 1)
    have : p - ((live D (ts.take (k + 1)) : Nat) : Int) = p - live D (ts.take k) - 1 := by rw [e]; omega
    rw [this]
    exact l2.grown (setCell_far _ n4)
  · rw [far bm (Ne.symm n3) n5 n6]; exact h.map
  · refine h.tge.keepT (fun b c hc => ?_) (fun b k' o hk' hmem ho => ?_)
    · rw [far b (obj_ne hc hh (by simp)) (obj_ne hc hl (by simp)) (obj_ne hc hbn (by simp))]; exact hc
    · obtain ⟨_, f', l', _, hh'⟩ := h.tge.tm k' b hk' hmem
      rw [far b (fun e => hdis k' hk' (e ▸ hmem)) (obj_ne hh' hl (by simp)) (obj_ne hh' hbn (by simp))]; exact ho
  · obtain ⟨a1, a2⟩ := h.row
    refine ⟨a1, ?_⟩
    rcases a2 with a2 | ⟨g, cap, cur, hv, hg, hgg, r⟩
    · exact .inl a2
    · exact .inr ⟨g, cap, cur, hv, hg, by rw [far g (obj_ne hgg hh (by simp)) (obj_ne hgg hl (by simp)) (obj_ne hgg hbn (by simp))]; exact hgg, r⟩
  · intro j u hj hu
    obtain ⟨b1, f', l', hf', hh'⟩ := h.tms j u (by omega) hu
    refine ⟨b1, f', l', hf', ?_⟩
    have hne : u ≠ t := by
      intro e
      subst e
      have hk : k < ts.length := (List.getElem?_eq_some_iff.1 ht).1
      have hjj : j < ts.length := (List.getElem?_eq_some_iff.1 hu).1
      have := (List.getElem?_inj hjj hnd).1 (hu.trans ht.symm)
      omega
    rw [far u hne (obj_ne hh' hl (by simp)) (obj_ne hh' hbn (by simp))]
    exact hh'
  · exact ((h.bel.setCell hBt _).setCell hb.2 _).setCell hb.1 _

end Go.Proofs.Qxb6612833a

/- The contracts of ZZnetTimer and ZZnetStoppedTimer in the words of NetB, LaneB and TG. -/
import Derived.Test.Qxb6612833aTimerCore
namespace Go.Proofs.Qxb6612833a
open Go.RowKit
open Go.ChangeMaps (setBlock)

theorem obj_ne {w : World} {a b : Nat} {o o' : Obj} (h : w.heap[a]? = some o) (h' : w.heap[b]? = some o') (ne : o ≠ o') : a ≠ b := fun e => by
  subst e
  rw [h] at h'
  exact ne (by cases h'; rfl)
theorem LaneB.blk {w : World} {bl bm : Nat} {q s : Value} {h p : Int} (hl : LaneB w bl bm q s h p) : w.heap[bl]? = some (.cells #[q, s, .int .i64 h, .map (some bm), .int .i64 p] 77 (0, 0)) := hl

/-- The blocks' numbers: all from B on; the two maps are two. -/
structure Bd (B bn bl bm bmem : Nat) : Prop where
  n : B ≤ bn
  l : B ≤ bl
  m : B ≤ bm
  e : B ≤ bmem
  ne : bm ≠ bmem

theorem NetB.grown {w w' : World} {bn bl bmem : Nat} {a : Value} (h : NetB w bn bl bmem a) (h1 : w'.heap[bn]? = w.heap[bn]?) (h2 : w'.heap[bmem]? = w.heap[bmem]?) : NetB w' bn bl bmem a := by
  obtain ⟨cs, c, a1, a2, a3, a4, a5, a6, a7, a8⟩ := h
  exact ⟨cs, c, h1.trans a1, a2, a3, a4, a5, a6, a7, h2.trans a8⟩
theorem LaneB.grown {w w' : World} {bl bm : Nat} {q s : Value} {h p : Int} (hl : LaneB w bl bm q s h p) (h1 : w'.heap[bl]? = w.heap[bl]?) : LaneB w' bl bm q s h p := h1.trans hl
theorem NetB.blk {w : World} {bn bl bmem : Nat} {a : Value} (h : NetB w bn bl bmem a) : ∃ cs, w.heap[bn]? = some (.cells cs 72 (0, 0)) := by
  obtain ⟨cs, c, a1, _⟩ := h; exact ⟨cs, a1⟩
theorem NetB.mem {w : World} {bn bl bmem : Nat} {a : Value} (h : NetB w bn bl bmem a) : w.heap[bmem]? = some (.map #[] 0) := by
  obtain ⟨cs, c, a1, a2, a3, a4, a5, a6, a7, a8⟩ := h; exact a8

/-- Rows of envelopes are as they were. -/
def Keep82 (w w' : World) : Prop := ∀ (b : Nat) (c : Array Value), w.heap[b]? = some (.cells c 82 (0, 0)) → w'.heap[b]? = some (.cells c 82 (0, 0))
theorem Keep82.trans {a b c : World} (h : Keep82 a b) (h' : Keep82 b c) : Keep82 a c := fun _ _ x => h' _ _ (h _ _ x)
theorem Keep82.setCell {w : World} {b o : Nat} {c : Array Value} {e : TypeId} (hb : w.heap[b]? = some (.cells c e (0, 0))) (he : e ≠ 82) (v : Value) : Keep82 w (w.setCell ⟨b, o, none⟩ v) := fun b' c' h => by
  rw [setCell_far _ (obj_ne h hb (fun e1 => he (by cases e1; rfl)))]; exact h

def upd (L : Int → Nat) (k0 : Int) (m : Nat) : Int → Nat := fun k => if k = k0 then L k0 + m else L k

/-- What the two functions that set a timer have in common. -/
theorem timer_wrap {B bn bl bm bmem N : Nat} {at_ h p lo : Int} {q s asd : Value} {L : Int → Nat} {w : World} (hb : Bd B bn bl bm bmem) (hn : NetB w bn bl bmem asd) (hl : LaneB w bl bm q s h p) (hat : lo < at_)
    {es : Array MapEntry} {ck : Nat} {G : Int → List Nat} {D : Nat → Bool} (hm : w.heap[bm]? = some (.map es ck)) (ht : TGE w B lo N (fun k => look k es.toList) G D) (hL : ∀ k, lo < k → L k = live D (G k))
    (f l : Value) (hf : f = .func (.func 48) #[] #[] ∨ f = .func (.func 49) #[] #[]) (d : Bool) {v : Value} (hv : (look at_ es.toList).getD (.slice none 0 0) = v) {g cap : Nat} {w1 : World} {es' : Array MapEntry} {ck' : Nat}
    (hown : w1.ownsRow B 104 1 (.slice (some ⟨g, 0, none⟩) ((G at_).length + 1) cap) ((G at_).length + 1) ((G at_).map ptr ++ [ptr w.heap.size])) (hg : v.ownBlock = some g ∨ g = w.heap.size + 2) (hik : IntKeys es'.toList)
    (hlk : ∀ k', look k' es'.toList = if k' = at_ then some (.slice (some ⟨g, 0, none⟩) ((G at_).length + 1) cap) else look k' es.toList)
    (hgrow : ((w.alloc (.cells #[f, .int .i64 (-1), l, .bool d] 106)).alloc (.cells #[ptr w.heap.size] 104)).grownBy w1 v.ownBlock) :
    NetB (setBlock w1 bm (.map es' ck')) bn bl bmem asd ∧ LaneB (setBlock w1 bm (.map es' ck')) bl bm q s h p ∧ TG (setBlock w1 bm (.map es' ck')) B bm lo (N + 1) (upd L at_ (if d then 0 else 1)) ∧ Below B w (setBlock w1 bm (.map es' ck')) ∧ Keep82 w (setBlock w1 bm (.map es' ck')) := by
  have hgw : w.grownBy w1 v.ownBlock := ((World.grownBy_alloc w _ _).trans (World.grownBy_alloc _ _ _)).trans hgrow
  have hrow : ∀ x, v.ownBlock = some x → B ≤ x ∧ ∃ c, w.heap[x]? = some (.cells c 104 (0, 0)) := by
    intro x hx
    cases hlo : look at_ es.toList with
    | none => rw [hlo] at hv; subst hv; simp [Value.ownBlock] at hx
    | some y =>
      rw [hlo] at hv
      simp at hv
      subst hv
      rcases (ht.row at_ hat _ hlo).2 with ⟨h1, _⟩ | ⟨g1, cap1, cur, h1, h2, h3, _⟩
      · rw [h1] at hx; simp [Value.ownBlock] at hx
      · rw [h1] at hx
        simp [Value.ownBlock] at hx
        subst hx
        exact ⟨h2, cur, h3⟩
  have far : ∀ (b : Nat) (o : Obj), w.heap[b]? = some o → (∀ c, o ≠ .cells c 104 (0, 0)) → w1.heap[b]? = w.heap[b]? := by
    intro b o ho hne
    refine hgw.block b (blk_lt ho) (fun e => ?_)
    obtain ⟨_, c, hc⟩ := hrow b e.symm
    rw [hc] at ho
    exact hne c (by cases ho; rfl)
  have hm1 := far bm _ hm (fun c => by simp)
  obtain ⟨cs, hbn⟩ := hn.blk
  have hbn1 := far bn _ hbn (fun c e => by simp at e)
  have hmem1 := far bmem _ hn.mem (fun c => by simp)
  have hbl1 := far bl _ hl.blk (fun c e => by simp at e)
  have n1 : bn ≠ bm := obj_ne hbn hm (by simp)
  have n2 : bl ≠ bm := obj_ne hl.blk hm (by simp)
  have hB : B ≤ w.heap.size := Nat.le_of_lt (Nat.lt_of_le_of_lt hb.m (blk_lt hm))
  have htb : (w.alloc (.cells #[f, .int .i64 (-1), l, .bool d] 106)).heap[w.heap.size]? = some (.cells #[f, .int .i64 (-1), l, .bool d] 106 (0, 0)) := heap_alloc_new w _
  have hTm1 : TmB w1 w.heap.size d := by
    refine ⟨f, l, hf, ?_⟩
    rw [hgrow.block w.heap.size (by simp; omega) (fun e => by obtain ⟨_, c, hc⟩ := hrow _ e.symm; have := blk_lt hc; omega)]
    rw [heap_alloc_lt _ _ _ (by simp)]
    exact htb
  have hnot : ∀ k, lo < k → w.heap.size ∉ G k := fun k hk hmem => by
    obtain ⟨_, f', l', _, hh⟩ := ht.tm k _ hk hmem
    have := blk_lt hh
    omega
  have hpush := ht.push (w1 := w1) (F' := fun k => look k es'.toList) at_ hat w.heap.size d hnot hB hTm1 v (by rw [← hv]) _ hlk hown hgw (fun x hx => by
      simp [Value.ownBlock] at hx
      subst hx
      rcases hg with hg | hg
      · exact .inl hg
      · right; omega) (fun k u hk hu x hx e => by
      subst e
      obtain ⟨_, c, hc⟩ := hrow u hx
      obtain ⟨_, f', l', _, hh⟩ := ht.tm k u hk hu
      rw [hc] at hh
      cases hh)
  have hk1 : Keep w1 (setBlock w1 bm (.map es' ck')) := Keep.setBlock (hm1.trans hm) _
  refine ⟨hn.grown ?_ ?_, hl.grown ?_, ⟨es', ck', _, _, setBlock_near (hm1.trans hm) _, hik, hpush.keep hk1, ?_⟩, ?_, ?_⟩
  · rw [setBlock_far _ n1]; exact hbn1
  · rw [setBlock_far _ (Ne.symm hb.ne)]; exact hmem1
  · rw [setBlock_far _ n2]; exact hbl1
  · intro k hk
    unfold upd
    by_cases e : k = at_
    · subst e
      simp only [if_true]
      rw [live_push (hnot k hk), hL k hk]
    · simp only [if_neg e]
      rw [live_far (hnot k hk), hL k hk]
  · have h1 : Below B w w1 := (Below.refl B w).grown hgw hB (fun k hk => (hrow k hk).1)
    refine h1.trans ⟨rfl, rfl, rfl, by simp [setBlock], fun k hk => ?_⟩
    rw [setBlock_far _ (by have := hb.m; omega)]
  · intro b c hbc
    rw [setBlock_far _ (obj_ne hbc hm (by simp)), far b _ hbc (fun c' e => by simp at e)]
    exact hbc

theorem TGE.at {w : World} {B : Nat} {lo : Int} {N : Nat} {l : List MapEntry} {G : Int → List Nat} {D : Nat → Bool} (ht : TGE w B lo N (fun k => look k l) G D) (k : Int) (hk : lo < k) :
    w.ownsRow B 104 1 ((look k l).getD (.slice none 0 0)) (G k).length ((G k).map ptr) := by
  cases h : look k l with
  | none =>
    have := ht.nil k hk h
    rw [this]
    exact World.ownsRow_nil _ _ _ _
  | some v => exact ht.row k hk v h

theorem row_far {w : World} {B : Nat} {v : Value} {n : Nat} {xs : List Value} (h : w.ownsRow B 104 1 v n xs) {b : Nat} {o : Obj} (hb : w.heap[b]? = some o) (ho : ∀ c, o ≠ .cells c 104 (0, 0)) : v.ownBlock ≠ some b := by
  intro e
  rcases h.2 with ⟨h1, _⟩ | ⟨g1, cap1, cur, h1, h2, h3, _⟩
  · rw [h1] at e; simp [Value.ownBlock] at e
  · rw [h1] at e
    simp [Value.ownBlock] at e
    subst e
    rw [h3] at hb
    exact ho cur (by cases hb; rfl)

theorem LaneB.setPend {w : World} {bl bm : Nat} {q s : Value} {h p : Int} (hl : LaneB w bl bm q s h p) (p' : Int) : LaneB (w.setCell ⟨bl, 4, none⟩ (.int .i64 p')) bl bm q s h p' := by
  unfold LaneB; rw [setCell_block hl]; rfl
theorem LaneB.setHop {w : World} {bl bm : Nat} {q s : Value} {h p : Int} (hl : LaneB w bl bm q s h p) (h' : Int) : LaneB (w.setCell ⟨bl, 2, none⟩ (.int .i64 h')) bl bm q s h' p := by
  unfold LaneB; rw [setCell_block hl]; rfl
theorem LaneB.setQueue {w : World} {bl bm : Nat} {q s : Value} {h p : Int} (hl : LaneB w bl bm q s h p) (q' : Value) : LaneB (w.setCell ⟨bl, 0, none⟩ q') bl bm q' s h p := by
  unfold LaneB; rw [setCell_block hl]; rfl
theorem LaneB.setSpare {w : World} {bl bm : Nat} {q s : Value} {h p : Int} (hl : LaneB w bl bm q s h p) (s' : Value) : LaneB (w.setCell ⟨bl, 1, none⟩ s') bl bm q s' h p := by
  unfold LaneB; rw [setCell_block hl]; rfl

/-- A store into the lane's block leaves network and timers as they were. -/
theorem lane_store {B bn bl bm bmem N : Nat} {h p lo : Int} {q s asd : Value} {L : Int → Nat} {w : World} (hb : Bd B bn bl bm bmem) (hn : NetB w bn bl bmem asd) (hl : LaneB w bl bm q s h p) (ht : TG w B bm lo N L) (o : Nat) (v : Value) :
    NetB (w.setCell ⟨bl, o, none⟩ v) bn bl bmem asd ∧ TG (w.setCell ⟨bl, o, none⟩ v) B bm lo N L ∧ Below B w (w.setCell ⟨bl, o, none⟩ v) ∧ Keep82 w (w.setCell ⟨bl, o, none⟩ v) := by
  obtain ⟨cs, hbn⟩ := hn.blk
  have n1 : bn ≠ bl := obj_ne hbn hl.blk (by simp)
  have n2 : bm ≠ bl := by obtain ⟨es, ck, G, D, h1, _⟩ := ht; exact obj_ne h1 hl.blk (by simp)
  have n3 : bmem ≠ bl := obj_ne hn.mem hl.blk (by simp)
  exact ⟨hn.grown (setCell_far _ n1) (setCell_far _ n3), ht.keep (Keep.setCell hl (by simp) _) (setCell_far _ n2), (Below.refl _ _).setCell hb.l _, Keep82.setCell hl.blk (by simp) _⟩

theorem netTimer_any {B bn bl bm bmem N : Nat} {h p lo : Int} {q s asd : Value} {L : Int → Nat} (at_ : Int) (w : World) (hb : Bd B bn bl bm bmem) (hn : NetB w bn bl bmem asd) (hl : LaneB w bl bm q s h p) (ht : TG w B bm lo N L) (hat : lo < at_) (hN : N ≤ 100000) (hp : 0 ≤ p ∧ p ≤ 100000) :
    Calls Try.prog 34 #[.pointer (some ⟨bn, 0, none⟩), .int .i64 at_] w fun e w' => e = .returned (.tuple #[]) ∧ NetB w' bn bl bmem asd ∧ LaneB w' bl bm q s h (p + 1) ∧ TG w' B bm lo (N + 1) (upd L at_ 1) ∧ Below B w w' ∧ Keep82 w w' := by
  obtain ⟨es, ck, G, D, h1, h2, h3, h4⟩ := ht
  have hr := h3.at at_ hat
  obtain ⟨cs, hbn⟩ := hn.blk
  have n1 : bm ≠ bn := obj_ne h1 hbn (by simp)
  have n2 : bm ≠ bl := obj_ne h1 hl.blk (by simp)
  refine (netTimer_core B bn bl bm (G at_).length at_ p _ _ es ck w hn.c259 hl.c3 hl.c4 (hl.fr _) h1 h2 rfl hr (Nat.le_of_lt (Nat.lt_of_le_of_lt hb.m (blk_lt h1))) (Nat.le_trans (h3.len at_ hat) hN) hp
    (row_far hr hbn (fun c e => by simp at e)) (row_far hr hl.blk (fun c e => by simp at e)) (row_far hr h1 (fun c => by simp)) n2 n1).mono ?_
  rintro e w' ⟨rfl, g, cap, w1, es', ck', k1, k2, k3, k4, k5, rfl⟩
  obtain ⟨r1, r2, r3, r4, r5⟩ := timer_wrap (ck' := ck') hb hn hl hat h1 h3 h4 _ _ (.inl rfl) false rfl k1 k2 k3 k4 k5
  obtain ⟨s1, s2, s3, s4⟩ := lane_store hb r1 r2 r3 4 (.int .i64 (p + 1))
  exact ⟨rfl, s1, r2.setPend _, s2, r4.trans s3, r5.trans s4⟩

theorem netStopped_any {B bn bl bm bmem N : Nat} {h p lo : Int} {q s asd : Value} {L : Int → Nat} (at_ : Int) (w : World) (hb : Bd B bn bl bm bmem) (hn : NetB w bn bl bmem asd) (hl : LaneB w bl bm q s h p) (ht : TG w B bm lo N L) (hat : lo < at_) (hN : N ≤ 100000) :
    Calls Try.prog 35 #[.pointer (some ⟨bn, 0, none⟩), .int .i64 at_] w fun e w' => e = .returned (.tuple #[]) ∧ NetB w' bn bl bmem asd ∧ LaneB w' bl bm q s h p ∧ TG w' B bm lo (N + 1) L ∧ Below B w w' ∧ Keep82 w w' := by
  obtain ⟨es, ck, G, D, h1, h2, h3, h4⟩ := ht
  have hr := h3.at at_ hat
  obtain ⟨cs, hbn⟩ := hn.blk
  have n1 : bm ≠ bn := obj_ne h1 hbn (by simp)
  have n2 : bm ≠ bl := obj_ne h1 hl.blk (by simp)
  refine (netStopped_core B bn bl bm (G at_).length at_ _ _ es ck w hn.c259 hl.c3 h1 h2 rfl hr (Nat.le_of_lt (Nat.lt_of_le_of_lt hb.m (blk_lt h1))) (Nat.le_trans (h3.len at_ hat) hN)
    (row_far hr hbn (fun c e => by simp at e)) (row_far hr hl.blk (fun c e => by simp at e)) (row_far hr h1 (fun c => by simp)) n2 n1).mono ?_
  rintro e w' ⟨rfl, g, cap, w1, es', ck', k1, k2, k3, k4, k5, rfl⟩
  obtain ⟨r1, r2, r3, r4, r5⟩ := timer_wrap (ck' := ck') hb hn hl hat h1 h3 h4 _ _ (.inr rfl) true rfl k1 k2 k3 k4 k5
  have e : upd L at_ (if true = true then 0 else 1) = L := by
    funext k
    unfold upd
    split
    · rename_i e; subst e; simp
    · rfl
  rw [e] at r3
  exact ⟨rfl, r1, r2, r3, r4, r5⟩
end Go.Proofs.Qxb6612833a

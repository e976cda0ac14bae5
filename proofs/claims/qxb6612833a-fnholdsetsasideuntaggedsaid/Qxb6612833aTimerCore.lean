/- The walks of 'ZZnetTimer' and 'ZZnetStoppedTimer'. -/
import Derived.Test.Qxb6612833aTimers
import Derived.OpenShut
import Derived.WalkLawsBesides
import Derived.ChangeOld
import Derived.Deep.RegionHeld3
import Derived.Deep.AppendLies
import Derived.Deep.DrawnRows
namespace Go.Proofs.Qxb6612833a
open Go.ChangeShapes Go.WideShapes Go.ChangeAt Go.RowKit
open Go.ChangeMaps (setBlock)

theorem info104 : (Try.prog.info? 104).map (fun i => (i.zero, i.size, i.bytes)) = some (some (.pointer none), 1, 8) := by kernel_rfl

theorem NetB.c259 {w : World} {bn bl bmem : Nat} {a : Value} (h : NetB w bn bl bmem a) : w.cell? ⟨bn, 259, none⟩ = some (.pointer (some ⟨bl, 0, none⟩)) := by
  obtain ⟨cs, c, h1, h2, h3, h4, h5, h6, h7, h8⟩ := h
  rw [blk_cell h1]; exact h5
theorem LaneB.c3 {w : World} {bl bm : Nat} {q s : Value} {h p : Int} (hl : LaneB w bl bm q s h p) : w.cell? ⟨bl, 3, none⟩ = some (.map (some bm)) := by rw [blk_cell hl]; rfl
theorem LaneB.c4 {w : World} {bl bm : Nat} {q s : Value} {h p : Int} (hl : LaneB w bl bm q s h p) : w.cell? ⟨bl, 4, none⟩ = some (.int .i64 p) := by rw [blk_cell hl]; rfl
theorem LaneB.c2 {w : World} {bl bm : Nat} {q s : Value} {h p : Int} (hl : LaneB w bl bm q s h p) : w.cell? ⟨bl, 2, none⟩ = some (.int .i64 h) := by rw [blk_cell hl]; rfl
theorem LaneB.c1 {w : World} {bl bm : Nat} {q s : Value} {h p : Int} (hl : LaneB w bl bm q s h p) : w.cell? ⟨bl, 1, none⟩ = some s := by rw [blk_cell hl]; rfl
theorem LaneB.c0 {w : World} {bl bm : Nat} {q s : Value} {h p : Int} (hl : LaneB w bl bm q s h p) : w.cell? ⟨bl, 0, none⟩ = some q := by rw [blk_cell hl]; rfl
theorem LaneB.fr {w : World} {bl bm : Nat} {q s : Value} {h p : Int} (hl : LaneB w bl bm q s h p) (o : Nat) : w.frozen? ⟨bl, o, none⟩ = false := blk_frozen hl

theorem setBlock_cell {w : World} {b k o : Nat} (ob : Obj) (h : k ≠ b) : (setBlock w b ob).cell? ⟨k, o, none⟩ = w.cell? ⟨k, o, none⟩ := World.cell?_of_block (setBlock_far ob h)
theorem setBlock_frozen {w : World} {b k o : Nat} (ob : Obj) (h : k ≠ b) : (setBlock w b ob).frozen? ⟨k, o, none⟩ = w.frozen? ⟨k, o, none⟩ := World.frozen?_of_block (setBlock_far ob h)

attribute [local go_sem ↓] Go.wp_at_zero Go.wp_at_succ

set_option maxRecDepth 100000 in
set_option maxHeartbeats 3200000 in
theorem netTimer_core (B bn bl bm n : Nat) (at_ p : Int) (v : Value) (xs : List Value) (es : Array MapEntry) (ck : Nat) (w : World)
    (c1 : w.cell? ⟨bn, 259, none⟩ = some (.pointer (some ⟨bl, 0, none⟩))) (c2 : w.cell? ⟨bl, 3, none⟩ = some (.map (some bm))) (c3 : w.cell? ⟨bl, 4, none⟩ = some (.int .i64 p)) (f3 : w.frozen? ⟨bl, 4, none⟩ = false)
    (hm : w.heap[bm]? = some (.map es ck)) (hik : IntKeys es.toList) (hv : (look at_ es.toList).getD (.slice none 0 0) = v) (hown : w.ownsRow B 104 1 v n xs) (hB : B ≤ w.heap.size)
    (hn : n ≤ 100000) (hp : 0 ≤ p ∧ p ≤ 100000)
    (an : v.ownBlock ≠ some bn) (al : v.ownBlock ≠ some bl) (am : v.ownBlock ≠ some bm) (bml : bm ≠ bl) (bmn : bm ≠ bn) :
    Calls Try.prog 34 #[.pointer (some ⟨bn, 0, none⟩), .int .i64 at_] w fun e w' => e = .returned (.tuple #[]) ∧ ∃ (g cap : Nat) (w1 : World) (es' : Array MapEntry) (ck' : Nat),
      w1.ownsRow B 104 1 (.slice (some ⟨g, 0, none⟩) (n + 1) cap) (n + 1) (xs ++ [ptr w.heap.size]) ∧ (v.ownBlock = some g ∨ g = w.heap.size + 2) ∧ IntKeys es'.toList ∧ (∀ k', look k' es'.toList = if k' = at_ then some (.slice (some ⟨g, 0, none⟩) (n + 1) cap) else look k' es.toList) ∧
      ((w.alloc (.cells #[.func (.func 48) #[] #[], .int .i64 (-1), .pointer (some ⟨bl, 0, none⟩), .bool false] 106)).alloc (.cells #[ptr w.heap.size] 104)).grownBy w1 v.ownBlock ∧ w' = (setBlock w1 bm (.map es' ck')).setCell ⟨bl, 4, none⟩ (.int .i64 (p + 1)) := by
  obtain ⟨i0, hi0, hz0, hz1, hz2⟩ := info_parts info104
  have lg := World.block_lt_of_cell? w _ c1
  have lk := World.block_lt_of_cell? w _ c2
  have lm := blk_lt hm
  have hlook : ∀ x : World, x.heap[bm]? = some (.map es ck) → (Instr.lookup 75 (.map (some bm)) (.int .i64 at_) false).run Try.prog x = .ok v x := fun x hx => by rw [run_look hx hik, hv]
  have hm1 : ∀ o, (w.alloc o).heap[bm]? = some (.map es ck) := fun o => by rw [heap_alloc_lt _ _ _ lm]; exact hm
  have hm2 : ∀ o o', ((w.alloc o).alloc o').heap[bm]? = some (.map es ck) := fun o o' => by rw [heap_alloc_lt _ _ _ (by simp; omega)]; exact hm1 o
  have hL1 : ∀ o, (Instr.lookup 75 (.map (some bm)) (.int .i64 at_) false).run Try.prog (w.alloc o).drew = .ok v (w.alloc o).drew := fun o => hlook _ (hm1 o)
  have hL2 : ∀ o o', (Instr.lookup 75 (.map (some bm)) (.int .i64 at_) false).run Try.prog ((w.alloc o).alloc o').drew = .ok v ((w.alloc o).alloc o').drew := fun o o' => hlook _ (hm2 o o')
  clear hlook
  go_enter Try.func34, Try.ntmps34
  go_wp2_with fail
  go_region_held3 (fun x => x.cell? ⟨bn, 259, none⟩ = some (.pointer (some ⟨bl, 0, none⟩)) ∧ x.cell? ⟨bl, 3, none⟩ = some (.map (some bm)))
    (first
      | (go_split_ands
         refine ⟨by go_keep, by go_keep⟩)
      | (go_split_ands
         refine ⟨?_, ?_⟩
         · (rw [hgrow.cell_far _ (by simp; omega) (Ne.symm an)]; assumption)
         · (rw [hgrow.cell_far _ (by simp; omega) (Ne.symm al)]; assumption))
      | (go_split_ands
         refine ⟨?_, ?_⟩
         · (rw [setBlock_cell _ (Ne.symm bmn)]; assumption)
         · (rw [setBlock_cell _ (Ne.symm bml)]; assumption)))
    ((refine step_append_lies _ (by rfl) _ _ _ (by rfl) B 104 i0 _ 1 8 Try.underlying107 hi0 hz0 hz1 hz2 rfl (by omega) v n xs (by rfl) (((hown.alloc _).alloc _).drew)
        ⟨w.heap.size + 1, 0, none⟩ 1 1 [ptr w.heap.size] (by rfl) (by rfl) (World.news_of_block (cs := #[ptr w.heap.size]) (t := 104) (fr := (0, 0)) (heap_alloc_at _ _ _ (by simp))) (by simp [Value.oneCell', ptr])
        (by omega) (by unfold maxLen; omega) (by omega) (by simp; omega) (w.heap.size + 2) (by simp) ?_; intro gg cap w1 hown1 hgrow hat hlt; have hm3 := (hgrow.block bm (by simp; omega) (Ne.symm am)).trans (hm2 _ _); obtain ⟨es', ck', hupd, hik', hlk'⟩ := run_upd hm3 hik at_ (.slice (some ⟨gg, 0, none⟩) (n + 1) cap)))
  all_goals
    have d1 : w1.cell? ⟨bl, 4, none⟩ = some (.int .i64 p) := by
      rw [hgrow.cell_far _ (by simp; omega) (Ne.symm al)]
      exact (World.grownBy_alloc _ _ none).cell ((World.grownBy_alloc w _ none).cell c3 (by simp)) (by simp)
    have d2 : w1.frozen? ⟨bl, 4, none⟩ = false := by
      rw [hgrow.frozen_far _ (by simp; omega) (Ne.symm al)]
      show World.frozen? (World.alloc _ _) _ = _
      rw [(World.grownBy_alloc _ _ none).frozen_far _ (by simp; omega) (by simp), (World.grownBy_alloc w _ none).frozen_far _ lk (by simp)]
      exact f3
    have d3 : (setBlock w1 bm (.map es' ck')).cell? ⟨bl, 4, none⟩ = some (.int .i64 p) := by rw [setBlock_cell _ (Ne.symm bml)]; exact d1
    have d4 : (setBlock w1 bm (.map es' ck')).frozen? ⟨bl, 4, none⟩ = false := by rw [setBlock_frozen _ (Ne.symm bml)]; exact d2
    have d5 : (setBlock w1 bm (.map es' ck')).cell? ⟨bn, 259, none⟩ = some (.pointer (some ⟨bl, 0, none⟩)) := by
      rw [setBlock_cell _ (Ne.symm bmn), hgrow.cell_far _ (by simp; omega) (Ne.symm an)]
      exact (World.grownBy_alloc _ _ none).cell ((World.grownBy_alloc w _ none).cell c1 (by simp)) (by simp)
    have Hx : Hid (∃ (g cap : Nat) (w1' : World) (es'' : Array MapEntry) (ck'' : Nat),
      w1'.ownsRow B 104 1 (.slice (some ⟨g, 0, none⟩) (n + 1) cap) (n + 1) (xs ++ [ptr w.heap.size]) ∧ (v.ownBlock = some g ∨ g = w.heap.size + 2) ∧ IntKeys es''.toList ∧ (∀ k', look k' es''.toList = if k' = at_ then some (.slice (some ⟨g, 0, none⟩) (n + 1) cap) else look k' es.toList) ∧
      ((w.alloc (.cells #[.func (.func 48) #[] #[], .int .i64 (-1), .pointer (some ⟨bl, 0, none⟩), .bool false] 106)).alloc (.cells #[ptr w.heap.size] 104)).grownBy w1' v.ownBlock ∧ (setBlock w1 bm (.map es' ck')).setCell ⟨bl, 4, none⟩ (.int .i64 (p + 1)) = (setBlock w1' bm (.map es'' ck'')).setCell ⟨bl, 4, none⟩ (.int .i64 (p + 1))) :=
      ⟨gg, cap, w1, es', ck', hown1, hat, hik', hlk', ⟨hgrow.os, hgrow.tape, hgrow.output, hgrow.size, hgrow.block⟩, rfl⟩
    clear hgrow hown1 hlk' hik' hat hm3 hupd hL1 hL2
    generalize setBlock w1 bm (.map es' ck') = w2 at *
    go_wp2
    go_end0
    exact ⟨rfl, Hx.out⟩

set_option maxRecDepth 100000 in
set_option maxHeartbeats 3200000 in
theorem netStopped_core (B bn bl bm n : Nat) (at_ : Int) (v : Value) (xs : List Value) (es : Array MapEntry) (ck : Nat) (w : World)
    (c1 : w.cell? ⟨bn, 259, none⟩ = some (.pointer (some ⟨bl, 0, none⟩))) (c2 : w.cell? ⟨bl, 3, none⟩ = some (.map (some bm)))
    (hm : w.heap[bm]? = some (.map es ck)) (hik : IntKeys es.toList) (hv : (look at_ es.toList).getD (.slice none 0 0) = v) (hown : w.ownsRow B 104 1 v n xs) (hB : B ≤ w.heap.size)
    (hn : n ≤ 100000)
    (an : v.ownBlock ≠ some bn) (al : v.ownBlock ≠ some bl) (am : v.ownBlock ≠ some bm) (bml : bm ≠ bl) (bmn : bm ≠ bn) :
    Calls Try.prog 35 #[.pointer (some ⟨bn, 0, none⟩), .int .i64 at_] w fun e w' => e = .returned (.tuple #[]) ∧ ∃ (g cap : Nat) (w1 : World) (es' : Array MapEntry) (ck' : Nat),
      w1.ownsRow B 104 1 (.slice (some ⟨g, 0, none⟩) (n + 1) cap) (n + 1) (xs ++ [ptr w.heap.size]) ∧ (v.ownBlock = some g ∨ g = w.heap.size + 2) ∧ IntKeys es'.toList ∧ (∀ k', look k' es'.toList = if k' = at_ then some (.slice (some ⟨g, 0, none⟩) (n + 1) cap) else look k' es.toList) ∧
      ((w.alloc (.cells #[.func (.func 49) #[] #[], .int .i64 (-1), .pointer (some ⟨bl, 0, none⟩), .bool true] 106)).alloc (.cells #[ptr w.heap.size] 104)).grownBy w1 v.ownBlock ∧ w' = setBlock w1 bm (.map es' ck') := by
  obtain ⟨i0, hi0, hz0, hz1, hz2⟩ := info_parts info104
  have lg := World.block_lt_of_cell? w _ c1
  have lk := World.block_lt_of_cell? w _ c2
  have lm := blk_lt hm
  have hlook : ∀ x : World, x.heap[bm]? = some (.map es ck) → (Instr.lookup 75 (.map (some bm)) (.int .i64 at_) false).run Try.prog x = .ok v x := fun x hx => by rw [run_look hx hik, hv]
  have hm1 : ∀ o, (w.alloc o).heap[bm]? = some (.map es ck) := fun o => by rw [heap_alloc_lt _ _ _ lm]; exact hm
  have hm2 : ∀ o o', ((w.alloc o).alloc o').heap[bm]? = some (.map es ck) := fun o o' => by rw [heap_alloc_lt _ _ _ (by simp; omega)]; exact hm1 o
  have hL1 : ∀ o, (Instr.lookup 75 (.map (some bm)) (.int .i64 at_) false).run Try.prog (w.alloc o).drew = .ok v (w.alloc o).drew := fun o => hlook _ (hm1 o)
  have hL2 : ∀ o o', (Instr.lookup 75 (.map (some bm)) (.int .i64 at_) false).run Try.prog ((w.alloc o).alloc o').drew = .ok v ((w.alloc o).alloc o').drew := fun o o' => hlook _ (hm2 o o')
  clear hlook
  go_enter Try.func35, Try.ntmps35
  go_wp2_with fail
  go_region_held3 (fun x => x.cell? ⟨bn, 259, none⟩ = some (.pointer (some ⟨bl, 0, none⟩)) ∧ x.cell? ⟨bl, 3, none⟩ = some (.map (some bm)))
    (first
      | (go_split_ands
         refine ⟨by go_keep, by go_keep⟩)
      | (go_split_ands
         refine ⟨?_, ?_⟩
         · (rw [hgrow.cell_far _ (by simp; omega) (Ne.symm an)]; assumption)
         · (rw [hgrow.cell_far _ (by simp; omega) (Ne.symm al)]; assumption))
      | (go_split_ands
         refine ⟨?_, ?_⟩
         · (rw [setBlock_cell _ (Ne.symm bmn)]; assumption)
         · (rw [setBlock_cell _ (Ne.symm bml)]; assumption)))
    ((refine step_append_lies _ (by rfl) _ _ _ (by rfl) B 104 i0 _ 1 8 Try.underlying107 hi0 hz0 hz1 hz2 rfl (by omega) v n xs (by rfl) (((hown.alloc _).alloc _).drew)
        ⟨w.heap.size + 1, 0, none⟩ 1 1 [ptr w.heap.size] (by rfl) (by rfl) (World.news_of_block (cs := #[ptr w.heap.size]) (t := 104) (fr := (0, 0)) (heap_alloc_at _ _ _ (by simp))) (by simp [Value.oneCell', ptr])
        (by omega) (by unfold maxLen; omega) (by omega) (by simp; omega) (w.heap.size + 2) (by simp) ?_; intro gg cap w1 hown1 hgrow hat hlt; have hm3 := (hgrow.block bm (by simp; omega) (Ne.symm am)).trans (hm2 _ _); obtain ⟨es', ck', hupd, hik', hlk'⟩ := run_upd hm3 hik at_ (.slice (some ⟨gg, 0, none⟩) (n + 1) cap)))
  all_goals
    have Hx : Hid (∃ (g cap : Nat) (w1' : World) (es'' : Array MapEntry) (ck'' : Nat),
      w1'.ownsRow B 104 1 (.slice (some ⟨g, 0, none⟩) (n + 1) cap) (n + 1) (xs ++ [ptr w.heap.size]) ∧ (v.ownBlock = some g ∨ g = w.heap.size + 2) ∧ IntKeys es''.toList ∧ (∀ k', look k' es''.toList = if k' = at_ then some (.slice (some ⟨g, 0, none⟩) (n + 1) cap) else look k' es.toList) ∧
      ((w.alloc (.cells #[.func (.func 49) #[] #[], .int .i64 (-1), .pointer (some ⟨bl, 0, none⟩), .bool true] 106)).alloc (.cells #[ptr w.heap.size] 104)).grownBy w1' v.ownBlock ∧ setBlock w1 bm (.map es' ck') = setBlock w1' bm (.map es'' ck'')) :=
      ⟨gg, cap, w1, es', ck', hown1, hat, hik', hlk', ⟨hgrow.os, hgrow.tape, hgrow.output, hgrow.size, hgrow.block⟩, rfl⟩
    clear hgrow hown1 hlk' hik' hat hm3 hupd hL1 hL2
    generalize setBlock w1 bm (.map es' ck') = w2 at *
    go_wp2
    go_end0
    exact ⟨rfl, Hx.out⟩
end Go.Proofs.Qxb6612833a

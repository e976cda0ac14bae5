/- The walk of Hold. -/
import Derived.Test.Qxb6612833aHoldI
import Derived.Deep.RegionLaw
import Derived.Deep.DrawnRows
namespace Go.Proofs.Qxb6612833a
open Go.ChangeShapes Go.WideShapes Go.ChangeAt Go.RowKit
open Go.ChangeMaps (setBlock)

theorem NetB.setAside {w : World} {bn bl bmem : Nat} {a : Value} (h : NetB w bn bl bmem a) (a' : Value) : NetB (w.setCell ⟨bn, 260, none⟩ a') bn bl bmem a' := by
  obtain ⟨cs, c, h1, h2, h3, h4, h5, h6, h7, h8⟩ := h
  refine ⟨cs.setIfInBounds 260 a', c, setCell_block h1 _, by simp [h2], ?_, ?_, ?_, ?_, ?_, ?_⟩
  · simp [h3]
  · simp [h4]
  · simp [h5]
  · simp [h2]
  · simp [h7]
  · rw [setCell_far _ (obj_ne h8 h1 (by simp))]; exact h8

/-- The one-element slice that an append lays first. -/
theorem wpList_bs {ops : Array Oper} {rest : List Oper} {o : Oper} {a : Act} {w : World} {Q : Exit → Act → World → Prop} (hgd : o.guard = none) (x : Operand) (ho : o.op = .buildSlice 66 1 #[(0, x)]) (t : Int) (hx : a.eval x = .agg (env t))
    (h : wpList Try.prog ops Q rest (a.put o.dst (.slice (some ⟨w.heap.size, 0, none⟩) 1 1)) (w.alloc (.cells (env t) 82))) : wpList Try.prog ops Q (o :: rest) a w := by
  refine wpList_plain hgd fun K hK => ?_
  have hr : (Instr.buildSlice 66 1 #[(0, .agg (env t))]).run Try.prog w = .ok (.slice (some ⟨w.heap.size, 0, none⟩) 1 1) (w.alloc (.cells (env t) 82)) := run_bs w _ _ t
  unfold Oper.wp execOp
  simp only [ho, List.map_toArray, List.map_cons, List.map_nil, hx, hr, Sem.run_bind, Sem.run_pure, Result.andThen_ok]
  exact hK _ _ h

def pb (v : Value) : Nat := match v with
  | .pointer (some a) => a.block
  | _ => 0
def isP0 (v : Value) : Bool := match v with
  | .pointer (some ⟨_, 0, none⟩) => true
  | _ => false
theorem pb_ptr (b : Nat) : pb (.pointer (some ⟨b, 0, none⟩)) = b := rfl
theorem isP0_ptr (b : Nat) : isP0 (.pointer (some ⟨b, 0, none⟩)) = true := rfl
theorem isP0_inv {v : Value} (h : isP0 v = true) : v = .pointer (some ⟨pb v, 0, none⟩) := by
  unfold isP0 at h
  split at h
  · rfl
  · cases h
theorem wp_ld {dst : Option Tmp} {ty : TypeId} {pos : String} {aft : Array Edge} {x : Operand} {a : Act} {w : World} {K : Act → World → Prop} {Q : Exit → Act → World → Prop} (hx : isP0 (a.eval x) = true) (hr : Is82 w (pb (a.eval x))) :
    Oper.wp Try.prog { dst := dst, op := .load 82 x, type := ty, pos := pos, after := aft, guard := none } a w K Q = K (a.put dst (.agg (rowOf w (pb (a.eval x))))) w := wp_load82 (isP0_inv hx) hr
theorem wp_bs {dst : Option Tmp} {ty : TypeId} {pos : String} {aft : Array Edge} {x : Operand} {a : Act} {w : World} {K : Act → World → Prop} {Q : Exit → Act → World → Prop} (hx : a.eval x = .agg (env (-1))) :
    Oper.wp Try.prog { dst := dst, op := .buildSlice 66 1 #[(0, x)], type := ty, pos := pos, after := aft, guard := none } a w K Q = K (a.put dst (.slice (some ⟨w.heap.size, 0, none⟩) 1 1)) (w.alloc (.cells (env (-1)) 82)) := by
  have hr : (Instr.buildSlice 66 1 #[(0, .agg (env (-1)))]).run Try.prog w = .ok (.slice (some ⟨w.heap.size, 0, none⟩) 1 1) (w.alloc (.cells (env (-1)) 82)) := run_bs w _ _ (-1)
  unfold Oper.wp execOp
  simp only [List.map_toArray, List.map_cons, List.map_nil, hx, hr, Sem.run_bind, Sem.run_pure, Result.andThen_ok]
  rfl

attribute [local go_sem ↓] Go.wp_at_zero Go.wp_at_succ wp_ld wp_bs
attribute [local go_sem] pb_ptr isP0_ptr

set_option maxRecDepth 100000 in
set_option maxHeartbeats 3200000 in
theorem hold_core (B bn bl bm bmem g cq : Nat) (h p : Int) (s : Value) (tags : List Int) (w : World)
    (hB : B ≤ bn ∧ B ≤ bl ∧ B ≤ w.heap.size) (hn : NetB w bn bl bmem (.pointer none)) (hl : LaneB w bl bm (.slice (some ⟨g, 0, none⟩) tags.length cq) s h p) (hq : QB w B (.slice (some ⟨g, 0, none⟩) tags.length cq) tags)
    (hT : 0 < tags.length ∧ tags.length ≤ 4096) :
    Calls Try.prog 39 #[.pointer (some ⟨bn, 0, none⟩), .func (.func 40) #[] #[]] w fun e w' => e = .returned (.tuple #[]) ∧ ∃ q', NetB w' bn bl bmem (.pointer none) ∧ LaneB w' bl bm q' s h p ∧ QB w' B q' (tgd tags) ∧ Below B w w' := by
  obtain ⟨hgb, _, hcq, hgB⟩ := hq.gb
  have hcm : Hid (cq ≤ maxLen) := by
    rcases hq.2 with ⟨h1, _⟩ | ⟨g1, cap1, cur, h1, h2, h3, h4, h5, h6, h7⟩
    · cases h1
    · obtain ⟨rfl, rfl⟩ : g = g1 ∧ cq = cap1 := by simpa using h1
      exact h5
  obtain ⟨cur0, hg0, _⟩ := id hgb
  have hgS := blk_lt hg0
  obtain ⟨csn, hbn⟩ := hn.blk
  have hbnS := blk_lt hbn
  have hc260 := hn.c260
  have hf260 := hn.fr 260
  have hc259 := hn.c259
  have hl0 := hl.c0
  have HN : Hid (NetB w bn bl bmem (.pointer none)) := hn
  have HL : Hid (LaneB w bl bm (.slice (some ⟨g, 0, none⟩) tags.length cq) s h p) := hl
  clear hn hl hq
  go_enter Try.func39, Try.ntmps39
  go_wp2_with fail
  refine (newLane_any _).mono ?_
  rintro e w1 ⟨rfl, hw1⟩
  have x260 : w1.cell? ⟨bn, 260, none⟩ = some (.pointer none) := by rw [hw1]; exact (World.grownBy_alloc _ _ none).cell ((World.grownBy_alloc w _ none).cell hc260 (by simp)) (by simp)
  have x259 : w1.cell? ⟨bn, 259, none⟩ = some (.pointer (some ⟨bl, 0, none⟩)) := by rw [hw1]; exact (World.grownBy_alloc _ _ none).cell ((World.grownBy_alloc w _ none).cell hc259 (by simp)) (by simp)
  have xl0 : w1.cell? ⟨bl, 0, none⟩ = some (.slice (some ⟨g, 0, none⟩) tags.length cq) := by rw [hw1]; exact (World.grownBy_alloc _ _ none).cell ((World.grownBy_alloc w _ none).cell hl0 (by simp)) (by simp)
  have xf260 : w1.frozen? ⟨bn, 260, none⟩ = false := by
    rw [hw1, (World.grownBy_alloc _ _ none).frozen_far _ (by simp; omega) (by simp), (World.grownBy_alloc w _ none).frozen_far _ hbnS (by simp)]
    exact hf260
  have HW1 : Hid _ := hw1
  clear hw1 hc260 hf260 hc259 hl0
  obtain ⟨w2, hw2⟩ : ∃ x, x = w1.setCell ⟨bn, 260, none⟩ (.pointer (some ⟨w.heap.size + 1, 0, none⟩)) := ⟨_, rfl⟩
  have I0 : Hid (HI B w.heap.size bn bl bmem g cq tags w w2 0 (.slice none 0 0)) := by
    have old1 : ∀ (b : Nat) (o : Obj), w.heap[b]? = some o → w1.heap[b]? = some o := fun b o ho => by
      rw [HW1.out, heap_alloc_lt _ _ _ (by have := blk_lt ho; simp; omega), heap_alloc_lt _ _ _ (blk_lt ho)]; exact ho
    have net1 : NetB w1 bn bl bmem (.pointer none) := HN.out.grown ((old1 _ _ hbn).trans hbn.symm) ((old1 _ _ HN.out.mem).trans HN.out.mem.symm)
    have lane1 : LaneB w1 (w.heap.size + 1) w.heap.size (.slice none 0 0) (.slice none 0 0) 0 0 := by
      rw [HW1.out]; exact heap_alloc_at _ _ _ (by simp)
    have map1 : w1.heap[w.heap.size]? = some (.map #[] 0) := by
      rw [HW1.out, heap_alloc_lt _ _ _ (by simp)]; exact heap_alloc_new w _
    have sz1 : w1.heap.size = w.heap.size + 2 := by rw [HW1.out]; simp
    have bel1 : Below B w w1 := by rw [HW1.out]; exact ((Below.refl B w).alloc hB.2.2 _).alloc (by simp; omega) _
    rw [hw2]
    refine ⟨net1.setAside _, lane1.grown (setCell_far _ (by omega)), by rw [setCell_far _ (by omega)]; exact map1, QB.nil _ _, ?_, ?_, bel1.setCell hB.1 _, by simp [sz1]⟩
    · refine hgb.far ?_
      rw [setCell_far _ (obj_ne hg0 hbn (by simp))]
      exact (old1 _ _ hg0).trans hg0.symm
    · intro b o ho _ hb
      rw [setCell_far _ hb]
      exact old1 b o ho
  go_wp2_with fail
  rw [← hw2]
  clear x260 x259 xl0 xf260 HW1 hw2
  go_loopw [4, 27] (fun tg i wr => ∃ (k : Nat) (qa : Value), k ≤ tags.length ∧ i = .int .i64 k ∧ tg = .slice (some ⟨g, 0, none⟩) (tgd (tags.take k)).length cq ∧ HI B w.heap.size bn bl bmem g cq tags w wr k qa) (fun _ i _ => tags.length - (intOf i).toNat)
  case atStart => exact ⟨0, _, Nat.zero_le _, rfl, rfl, I0.out⟩
  case round =>
    obtain ⟨k, qa, hk, rfl, rfl, hI⟩ := hrel
    by_cases hlt : k < tags.length
    · obtain ⟨t, htk⟩ : ∃ t, tags[k]? = some t := ⟨tags[k], List.getElem?_eq_getElem hlt⟩
      have HRG : Hid (wr.rangeAt g (k * 48) (env t).toList) := hI.gb.range htk
      have HIH : Hid _ := hI
      have hte := take_get tags k t htk
      have hsz := hI.sz
      have hnew : (wr.alloc (.cells (env t) 82)).heap[wr.heap.size]? = some (.cells (env t) 82 (0, 0)) := heap_alloc_new wr _
      have q47 : (wr.alloc (.cells (env t) 82)).cell? ⟨wr.heap.size, 47, none⟩ = some (.int .i64 t) := by rw [blk_cell hnew]; exact envC_47 _ _ _
      have hbs : ∀ w : World, (Instr.buildSlice 66 1 #[(0, .agg (env t))]).run Try.prog w = .ok (.slice (some ⟨w.heap.size, 0, none⟩) 1 1) (w.alloc (.cells (env t) 82)) := fun w => run_bs w _ _ t
      obtain ⟨cur, hcur⟩ : ∃ cur : Array Value, wr.heap[g]? = some (.cells cur 82 (0, 0)) ∧ cur.size = cq * 48 := by
        obtain ⟨c, h1, h2, _⟩ := hI.gb; exact ⟨c, h1, h2⟩
      have hTl := tgd_le (tags.take k)
      have hTk := List.length_take_le k tags
      have HTK : Hid (tags[k]? = some t) := htk
      have HTE : Hid (tags.take (k + 1) = tags.take k ++ [t]) := hte
      have HCUR : Hid (wr.heap[g]? = some (.cells cur 82 (0, 0))) := hcur.1
      have hcs := hcur.2
      have hcur2 : ((wr.alloc (.cells (env t) 82)).alloc (.cells (env t) 82)).heap[g]? = some (.cells cur 82 (0, 0)) := by
        rw [heap_alloc_lt _ _ _ (by simp; omega), heap_alloc_lt _ _ _ (by omega)]; exact hcur.1
      have HC2 : Hid _ := hcur2
      clear htk hte hcur hcur2 hnew
      cases htt : (t == -1)
      · have HTT : Hid ((t == -1) = false) := htt
        go_wp2_with (first | refine wpList_load_mid (by rfl) 82 _ (by rfl) g (k * 48) (by rfl) (env t).toList _ HRG.out Try.underlying82 (by rfl) (by rw [size82, Array.length_toList, env_size]) ?_ | (refine wpList_store_row (by rfl) 82 _ _ (by rfl) wr.heap.size (env t) (by rfl) (by rfl) 82 _ (heap_alloc_new wr _) (by rw [size82, env_size]) (by rw [env_size]; rfl) (envC_all _ _ _) ?_; rw [alloc_setRow]) | refine wpList_load_mid (by rfl) 82 _ (by rfl) wr.heap.size 0 (by rfl) (env t).toList _ (range_new wr _) Try.underlying82 (by rfl) (by rw [size82, Array.length_toList, env_size]) ?_ | refine wpList_bs (by rfl) _ (by rfl) t (by rfl) ?_ | refine wpList_append_in (by rfl) _ _ (by rfl) g (tgd (tags.take k)).length cq cur (by rfl) HC2.out ⟨(wr.alloc (.cells (env t) 82)).heap.size, 0, none⟩ t (by rfl) (World.news_of_block (t := 82) (fr := (0, 0)) (heap_alloc_new _ _)) (by omega) (by omega) ?_)
        go_roundw
        case rel => exact ⟨k + 1, qa, by omega, by go_num, by rw [HTE.out, tgd_yes _ _ HTT.out, List.length_append]; rfl, HIH.out.tagged ⟨hgB, hgS⟩ HTK.out HTT.out (by omega) HCUR.out _ _⟩
        case measure => simp [intOf]; omega
      · obtain rfl : t = -1 := by simpa using htt
        clear htt
        obtain ⟨w3, hw3⟩ : ∃ x, x = wr.alloc (.cells (env (-1)) 82) := ⟨_, rfl⟩
        have y260 : w3.cell? ⟨bn, 260, none⟩ = some (.pointer (some ⟨w.heap.size + 1, 0, none⟩)) := by rw [hw3]; exact (World.grownBy_alloc wr _ none).cell HIH.out.net.c260 (by simp)
        have yq : w3.cell? ⟨w.heap.size + 1, 0, none⟩ = some qa := by rw [hw3]; exact (World.grownBy_alloc wr _ none).cell HIH.out.lane.c0 (by simp)
        have yf : w3.frozen? ⟨w.heap.size + 1, 0, none⟩ = false := by rw [hw3, (World.grownBy_alloc wr _ none).frozen_far _ (blk_lt HIH.out.lane.blk) (by simp)]; exact HIH.out.lane.fr 0
        have y47 : w3.cell? ⟨wr.heap.size, 47, none⟩ = some (.int .i64 (-1)) := by rw [hw3]; exact q47
        have hb3 : w3.heap[wr.heap.size]? = some (.cells (env (-1)) 82 (0, 0)) := by rw [hw3]; exact heap_alloc_new wr _
        have is0 : Is82 w3.drew wr.heap.size := ⟨_, hb3, env_size _⟩
        have ro0 : rowOf w3.drew wr.heap.size = env (-1) := by show rowOf w3 _ = _; unfold rowOf; rw [hb3]
        have HW3 : Hid _ := hw3
        have HB3 : Hid _ := hb3
        clear q47 hw3 hb3
        go_wp2_with (first | refine wpList_load_mid (by rfl) 82 _ (by rfl) g (k * 48) (by rfl) (env (-1)).toList _ HRG.out Try.underlying82 (by rfl) (by rw [size82, Array.length_toList, env_size]) ?_ | (refine wpList_store_row (by rfl) 82 _ _ (by rfl) wr.heap.size (env (-1)) (by rfl) (by rfl) 82 _ (heap_alloc_new wr _) (by rw [size82, env_size]) (by rw [env_size]; rfl) (envC_all _ _ _) ?_; rw [alloc_setRow, ← HW3.out]))
        have y260a : ∀ o, (w3.alloc o).cell? ⟨bn, 260, none⟩ = some (.pointer (some ⟨w.heap.size + 1, 0, none⟩)) := fun o => (World.grownBy_alloc w3 o none).cell y260 (by simp)
        have yqa : ∀ o, (w3.alloc o).cell? ⟨w.heap.size + 1, 0, none⟩ = some qa := fun o => (World.grownBy_alloc w3 o none).cell yq (by simp)
        obtain ⟨i0, hi0, hz0, hz1, hz2⟩ := info_parts info82
        have hown3 : w3.ownsRow w.heap.size 82 48 qa (unt (tags.take k)) (envs (List.replicate (unt (tags.take k)) (-1))) := by
          have q3 := HIH.out.qb
          unfold QB at q3
          rw [List.length_replicate] at q3
          rw [HW3.out]
          exact q3.alloc _
        have HOWN : Hid (w3.ownsRow w.heap.size 82 48 qa (unt (tags.take k)) (envs (List.replicate (unt (tags.take k)) (-1)))) := hown3
        have hul := unt_le (tags.take k)
        have w3s : wr.heap.size < w3.heap.size := blk_lt HB3.out
        have lA3 : w.heap.size + 1 < w3.heap.size := by omega
        have al : qa.ownBlock ≠ some (w.heap.size + 1) := HIH.out.qb.far HIH.out.lane.blk (fun c e => by simp at e)
        obtain ⟨csx, hbnx⟩ := HIH.out.net.blk
        have an : qa.ownBlock ≠ some bn := HIH.out.qb.far hbnx (fun c e => by simp at e)
        clear hown3 hbnx
        go_region_law
          ((refine step_append_lies _ (by rfl) _ _ _ (by rfl) w.heap.size 82 i0 _ 48 272 Try.underlying66 hi0 hz0 hz1 hz2 rfl (by omega) qa (unt (tags.take k)) (envs (List.replicate (unt (tags.take k)) (-1))) (by rfl) ((HOWN.out.alloc _).drew)
              ⟨w3.heap.size, 0, none⟩ 1 1 (env (-1)).toList (by rfl) (by rw [Array.length_toList, env_size]) (World.news_of_block (t := 82) (fr := (0, 0)) (heap_alloc_new w3 _)) (envC_one _ _ _)
              (by omega) (by unfold maxLen; omega) (by omega) (by simp; omega) (w3.heap.size + 1) (by simp) ?_; intro gg cap w4 hown1 hgrow hat hlt'
            have z260 : w4.cell? ⟨bn, 260, none⟩ = some (.pointer (some ⟨w.heap.size + 1, 0, none⟩)) := hgrow.cell ((World.grownBy_alloc w3 _ none).cell y260 (by simp)) (Ne.symm an)
            have zq : w4.cell? ⟨w.heap.size + 1, 0, none⟩ = some qa := hgrow.cell ((World.grownBy_alloc w3 _ none).cell yq (by simp)) (Ne.symm al)
            have zf : w4.frozen? ⟨w.heap.size + 1, 0, none⟩ = false := by
              rw [hgrow.frozen_far _ (by simp; omega) (Ne.symm al)]
              show World.frozen? (World.alloc _ _) _ = _
              rw [(World.grownBy_alloc w3 _ none).frozen_far _ lA3 (by simp)]
              exact yf))
        all_goals
          have HF : Hid (HI B w.heap.size bn bl bmem g cq tags w (w4.setCell ⟨w.heap.size + 1, 0, none⟩ (.slice (some ⟨gg, 0, none⟩) (unt (tags.take k) + 1) cap)) (k + 1) (.slice (some ⟨gg, 0, none⟩) (unt (tags.take k) + 1) cap)) :=
            HIH.out.untagged ⟨hgB, hgS⟩ hB.2.2 rfl HTK.out (by rfl) (.cells (env (-1)) 82) (.cells (env (-1)) 82) hown1 (by rw [← HW3.out]; exact ⟨hgrow.os, hgrow.tape, hgrow.output, hgrow.size, hgrow.block⟩)
          clear hgrow hown1 hat
          go_wp2_with fail
          go_roundw
          case rel => exact ⟨k + 1, _, by omega, by go_num, by rw [HTE.out, tgd_no _ _ (by rfl)], HF.out⟩
          case measure => simp [intOf]; omega
    · obtain rfl : k = tags.length := by omega
      have hTl := tgd_le tags
      have gb := hI.gb
      rw [List.take_length] at gb
      obtain ⟨cur, g1, g2, g3, _⟩ := gb
      obtain ⟨csx, hbnx⟩ := hI.net.blk
      have lr : LaneB wr bl bm (.slice (some ⟨g, 0, none⟩) tags.length cq) s h p := hI.far bl _ HL.out (obj_ne HL.out.blk hg0 (by simp)) (obj_ne HL.out.blk hbn (by simp))
      have r259 := hI.net.c259
      have r0 := lr.c0
      have rl := lr.blk
      have glt : bl ≠ g := obj_ne rl g1 (by simp)
      have hblS := blk_lt HL.out.blk
      have hsz := hI.sz
      have hclr0 : ∀ (a : Option Addr) (c : Nat) (w : World) (ty : TypeId), (Builtin.clear_ #[66] ty #[.slice a 0 c]).run Try.prog w = .ok (.tuple #[]) w := by
        intro a c w ty
        cases a <;> simp [Builtin.clear_, run_underlying Try.underlying66]
      -- the world behind 'clear': the row's head is as it was
      have fin : ∀ w4 : World, (∀ b, b ≠ g → w4.heap[b]? = wr.heap[b]?) → w4.heap.size = wr.heap.size → w4.os = wr.os → w4.tape = wr.tape → w4.output = wr.output → (∃ arr : Array Value, w4.heap[g]? = some (.cells arr 82 (0, 0)) ∧ arr.size = cur.size ∧ ∀ j, j < (tgd tags).length * 48 → arr[j]? = cur[j]?) →
          NetB (w4.setCell ⟨bl, 0, none⟩ (.slice (some ⟨g, 0, none⟩) (tgd tags).length cq)) bn bl bmem (.pointer (some ⟨w.heap.size + 1, 0, none⟩)) ∧ LaneB (w4.setCell ⟨bl, 0, none⟩ (.slice (some ⟨g, 0, none⟩) (tgd tags).length cq)) (w.heap.size + 1) w.heap.size qa (.slice none 0 0) 0 0 ∧
          (w4.setCell ⟨bl, 0, none⟩ (.slice (some ⟨g, 0, none⟩) (tgd tags).length cq)).heap[w.heap.size]? = some (.map #[] 0) ∧ QB (w4.setCell ⟨bl, 0, none⟩ (.slice (some ⟨g, 0, none⟩) (tgd tags).length cq)) w.heap.size qa (List.replicate (unt tags) (-1)) ∧
          LaneB (w4.setCell ⟨bl, 0, none⟩ (.slice (some ⟨g, 0, none⟩) (tgd tags).length cq)) bl bm (.slice (some ⟨g, 0, none⟩) (tgd tags).length cq) s h p ∧ QB (w4.setCell ⟨bl, 0, none⟩ (.slice (some ⟨g, 0, none⟩) (tgd tags).length cq)) B (.slice (some ⟨g, 0, none⟩) (tgd tags).length cq) (tgd tags) ∧
          Below B w (w4.setCell ⟨bl, 0, none⟩ (.slice (some ⟨g, 0, none⟩) (tgd tags).length cq)) := by
        intro w4 hfar hs ho htp hou ⟨arr, ha1, ha2, ha3⟩
        have n4 : NetB w4 bn bl bmem (.pointer (some ⟨w.heap.size + 1, 0, none⟩)) := hI.net.grown (hfar bn (obj_ne hbnx g1 (by simp))) (hfar bmem (obj_ne hI.net.mem g1 (by simp)))
        obtain ⟨cs4, hbn4⟩ := n4.blk
        have l4 : LaneB w4 bl bm (.slice (some ⟨g, 0, none⟩) tags.length cq) s h p := lr.grown (hfar bl glt)
        have la4 : LaneB w4 (w.heap.size + 1) w.heap.size qa (.slice none 0 0) 0 0 := hI.lane.grown (hfar _ (by omega))
        have k82 : Keep82 w4 (w4.setCell ⟨bl, 0, none⟩ (.slice (some ⟨g, 0, none⟩) (tgd tags).length cq)) := Keep82.setCell l4.blk (by simp) _
        refine ⟨n4.grown (setCell_far _ (obj_ne hbn4 l4.blk (by simp))) (setCell_far _ (obj_ne n4.mem l4.blk (by simp))), la4.grown (setCell_far _ (by omega)), ?_, ?_, l4.setQueue _, ?_, ?_⟩
        · rw [setCell_far _ (by omega), hfar _ (by omega)]; exact hI.map
        · have q := hI.qb
          rw [List.take_length] at q
          obtain ⟨a1, a2⟩ := q
          refine QB.keep ⟨a1, ?_⟩ k82
          rcases a2 with a2 | ⟨g', cap, cur2, hv, hgg, hh, r⟩
          · exact .inl a2
          · exact .inr ⟨g', cap, cur2, hv, hgg, (hfar g' (by omega)).trans hh, r⟩
        · refine QB.keep ?_ k82
          refine ⟨envs_len _, .inr ⟨g, cq, arr, rfl, hgB, ha1, by omega, ?_, by rw [ha2]; exact g2, ?_⟩⟩
          · exact hcm.out
          · rw [← g3]
            apply List.ext_getElem?
            intro j
            rw [List.getElem?_take, List.getElem?_take]
            split
            · rename_i hj
              rw [Array.getElem?_toList, Array.getElem?_toList]
              exact ha3 j hj
            · rfl
        · have b4 : Below B w w4 := hI.bel.trans ⟨ho, htp, hou, by omega, fun b hb => hfar b (by omega)⟩
          exact b4.setCell hB.2.1 _
      have FIN : Hid _ := fin
      have G1 : Hid _ := g1
      have HI0 : Hid _ := hI
      have FR0 : Hid (wr.frozen? ⟨bl, 0, none⟩ = false) := lr.fr 0
      clear fin hgb rl lr hbnx
      have hblbn : bl ≠ bn := obj_ne HL.out.blk hbn (by simp)
      have hgbn : g ≠ bn := obj_ne hg0 hbn (by simp)
      have hmemS := blk_lt HN.out.mem
      by_cases hTn : (tgd tags).length = tags.length
      · have FF : Hid _ := FIN.out wr (fun _ _ => rfl) rfl rfl rfl rfl ⟨cur, G1.out, rfl, fun _ _ => rfl⟩
        have hsub : tags.length - (tgd tags).length = 0 := by omega
        have hf0 : wr.frozen? ⟨bl, 0, none⟩ = false := FR0.out
        have hle : (tgd tags).length ≤ cq := by omega
        clear hTn
        clear FIN G1 HI0 hI
        by_cases hcT : cq = (tgd tags).length
        · subst hcT
          go_wp2_with fail
          refine (f40_any _).mono ?_; rintro e w' ⟨rfl, hw'⟩; rw [hw']; clear hw' w'
          obtain ⟨v1, v2, v3, v4, v5, v6, v7⟩ := FF.out
          generalize wr.setCell ⟨bl, 0, none⟩ (.slice (some ⟨g, 0, none⟩) (tgd tags).length (tgd tags).length) = w5 at *
          go_wp2_with fail
          refine (runAside_any (B := B) w5 ⟨hB.1, by omega, hB.2.2⟩ (Nat.ne_of_gt hmemS) v1 v2 (v4.base hB.2.2) (Nat.le_trans (unt_le tags) hT.2) v3).mono ?_
          rintro e w6 ⟨rfl, n6, b6⟩
          have x260 := n6.c260
          have xf260 := n6.fr 260
          have bl6 : w6.heap[bl]? = w5.heap[bl]? := b6.above bl (fun hx => by rcases hx with e | e | e | e <;> first | omega | exact hblbn e | (have := (v4.lt _ e).1; omega)) (blk_lt v5.blk)
          have g5 : ∃ c : Array Value, w5.heap[g]? = some (.cells c 82 (0, 0)) := by
            rcases v6.2 with ⟨h1, _⟩ | ⟨g1, cap1, cur, h1, h2, h3, _⟩
            · cases h1
            · obtain ⟨rfl, _⟩ : g = g1 ∧ (tgd tags).length = cap1 := by simpa using h1
              exact ⟨cur, h3⟩
          obtain ⟨c5, g5⟩ := g5
          have gg6 : w6.heap[g]? = w5.heap[g]? := b6.above g (fun hx => by rcases hx with e | e | e | e <;> first | omega | exact hgbn e | (have := (v4.lt _ e).1; omega)) (blk_lt g5)
          have HFF : Hid (∃ q', NetB (w6.setCell ⟨bn, 260, none⟩ (.pointer none)) bn bl bmem (.pointer none) ∧ LaneB (w6.setCell ⟨bn, 260, none⟩ (.pointer none)) bl bm q' s h p ∧ QB (w6.setCell ⟨bn, 260, none⟩ (.pointer none)) B q' (tgd tags) ∧ Below B w (w6.setCell ⟨bn, 260, none⟩ (.pointer none))) := by
            refine ⟨.slice (some ⟨g, 0, none⟩) (tgd tags).length (tgd tags).length, n6.setAside _, v5.grown (by rw [setCell_far _ hblbn]; exact bl6), ?_, (v7.trans b6.below).setCell hB.1 _⟩
            obtain ⟨a1, a2⟩ := v6
            refine ⟨a1, ?_⟩
            rcases a2 with a2 | ⟨g', cap, cur2, hv, hgg, hh, r⟩
            · exact .inl a2
            · obtain ⟨rfl, _⟩ : g = g' ∧ (tgd tags).length = cap := by simpa using hv
              exact .inr ⟨g, cap, cur2, hv, hgg, by rw [setCell_far _ hgbn, gg6]; exact hh, r⟩
          clear v1 v2 v3 v4 v5 v6 v7 bl6 gg6 g5 b6 n6
          go_wp2_with fail
          go_end0
          exact ⟨rfl, HFF.out⟩
        · have hcT' : ¬ (tgd tags).length = cq := fun e => hcT e.symm
          go_wp2_with fail
          refine (f40_any _).mono ?_; rintro e w' ⟨rfl, hw'⟩; rw [hw']; clear hw' w'
          obtain ⟨v1, v2, v3, v4, v5, v6, v7⟩ := FF.out
          generalize wr.setCell ⟨bl, 0, none⟩ (.slice (some ⟨g, 0, none⟩) (tgd tags).length cq) = w5 at *
          go_wp2_with fail
          refine (runAside_any (B := B) w5 ⟨hB.1, by omega, hB.2.2⟩ (Nat.ne_of_gt hmemS) v1 v2 (v4.base hB.2.2) (Nat.le_trans (unt_le tags) hT.2) v3).mono ?_
          rintro e w6 ⟨rfl, n6, b6⟩
          have x260 := n6.c260
          have xf260 := n6.fr 260
          have bl6 : w6.heap[bl]? = w5.heap[bl]? := b6.above bl (fun hx => by rcases hx with e | e | e | e <;> first | omega | exact hblbn e | (have := (v4.lt _ e).1; omega)) (blk_lt v5.blk)
          have g5 : ∃ c : Array Value, w5.heap[g]? = some (.cells c 82 (0, 0)) := by
            rcases v6.2 with ⟨h1, _⟩ | ⟨g1, cap1, cur, h1, h2, h3, _⟩
            · cases h1
            · obtain ⟨rfl, _⟩ : g = g1 ∧ cq = cap1 := by simpa using h1
              exact ⟨cur, h3⟩
          obtain ⟨c5, g5⟩ := g5
          have gg6 : w6.heap[g]? = w5.heap[g]? := b6.above g (fun hx => by rcases hx with e | e | e | e <;> first | omega | exact hgbn e | (have := (v4.lt _ e).1; omega)) (blk_lt g5)
          have HFF : Hid (∃ q', NetB (w6.setCell ⟨bn, 260, none⟩ (.pointer none)) bn bl bmem (.pointer none) ∧ LaneB (w6.setCell ⟨bn, 260, none⟩ (.pointer none)) bl bm q' s h p ∧ QB (w6.setCell ⟨bn, 260, none⟩ (.pointer none)) B q' (tgd tags) ∧ Below B w (w6.setCell ⟨bn, 260, none⟩ (.pointer none))) := by
            refine ⟨.slice (some ⟨g, 0, none⟩) (tgd tags).length cq, n6.setAside _, v5.grown (by rw [setCell_far _ hblbn]; exact bl6), ?_, (v7.trans b6.below).setCell hB.1 _⟩
            obtain ⟨a1, a2⟩ := v6
            refine ⟨a1, ?_⟩
            rcases a2 with a2 | ⟨g', cap, cur2, hv, hgg, hh, r⟩
            · exact .inl a2
            · obtain ⟨rfl, _⟩ : g = g' ∧ cq = cap := by simpa using hv
              exact .inr ⟨g, cap, cur2, hv, hgg, by rw [setCell_far _ hgbn, gg6]; exact hh, r⟩
          clear v1 v2 v3 v4 v5 v6 v7 bl6 gg6 g5 b6 n6
          go_wp2_with fail
          go_end0
          exact ⟨rfl, HFF.out⟩
      · have hTlt : (tgd tags).length < tags.length := by omega
        obtain ⟨arr, hasz, hapre, hclr⟩ := run_clear82 (w := wr) (g := g) (o := (tgd tags).length * 48) (n := tags.length - (tgd tags).length) (cap := cq - (tgd tags).length) G1.out (by omega) (by rw [g2]; omega) 0
        obtain ⟨w4, hw4⟩ : ∃ x, x = wr.setRow g arr := ⟨_, rfl⟩
        rw [← hw4] at hclr
        have FF : Hid _ := FIN.out w4 (fun b hb => by rw [hw4]; exact setRow_far _ hb) (by rw [hw4]; simp [World.setRow]) (by rw [hw4]; rfl) (by rw [hw4]; rfl) (by rw [hw4]; rfl) ⟨arr, by rw [hw4]; exact setRow_near G1.out _, hasz, hapre⟩
        have z259 : w4.cell? ⟨bn, 259, none⟩ = some (.pointer (some ⟨bl, 0, none⟩)) := by rw [hw4, World.cell?_of_block (setRow_far _ (Ne.symm hgbn))]; exact r259
        have z0 : w4.cell? ⟨bl, 0, none⟩ = some (.slice (some ⟨g, 0, none⟩) tags.length cq) := by rw [hw4, World.cell?_of_block (setRow_far _ glt)]; exact r0
        have zf0 : w4.frozen? ⟨bl, 0, none⟩ = false := by rw [hw4, World.frozen?_of_block (setRow_far _ glt)]; exact FR0.out
        clear FIN G1 HI0 hI hw4 hapre
        go_wp2_with fail
        refine (f40_any _).mono ?_; rintro e w' ⟨rfl, hw'⟩; rw [hw']; clear hw' w'
        obtain ⟨v1, v2, v3, v4, v5, v6, v7⟩ := FF.out
        generalize w4.setCell ⟨bl, 0, none⟩ (.slice (some ⟨g, 0, none⟩) (tgd tags).length cq) = w5 at *
        go_wp2_with fail
        refine (runAside_any (B := B) w5 ⟨hB.1, by omega, hB.2.2⟩ (Nat.ne_of_gt hmemS) v1 v2 (v4.base hB.2.2) (Nat.le_trans (unt_le tags) hT.2) v3).mono ?_
        rintro e w6 ⟨rfl, n6, b6⟩
        have x260 := n6.c260
        have xf260 := n6.fr 260
        have bl6 : w6.heap[bl]? = w5.heap[bl]? := b6.above bl (fun hx => by rcases hx with e | e | e | e <;> first | omega | exact hblbn e | (have := (v4.lt _ e).1; omega)) (blk_lt v5.blk)
        have g5 : ∃ c : Array Value, w5.heap[g]? = some (.cells c 82 (0, 0)) := by
          rcases v6.2 with ⟨h1, _⟩ | ⟨g1, cap1, cur, h1, h2, h3, _⟩
          · cases h1
          · obtain ⟨rfl, _⟩ : g = g1 ∧ cq = cap1 := by simpa using h1
            exact ⟨cur, h3⟩
        obtain ⟨c5, g5⟩ := g5
        have gg6 : w6.heap[g]? = w5.heap[g]? := b6.above g (fun hx => by rcases hx with e | e | e | e <;> first | omega | exact hgbn e | (have := (v4.lt _ e).1; omega)) (blk_lt g5)
        have HFF : Hid (∃ q', NetB (w6.setCell ⟨bn, 260, none⟩ (.pointer none)) bn bl bmem (.pointer none) ∧ LaneB (w6.setCell ⟨bn, 260, none⟩ (.pointer none)) bl bm q' s h p ∧ QB (w6.setCell ⟨bn, 260, none⟩ (.pointer none)) B q' (tgd tags) ∧ Below B w (w6.setCell ⟨bn, 260, none⟩ (.pointer none))) := by
          refine ⟨.slice (some ⟨g, 0, none⟩) (tgd tags).length cq, n6.setAside _, v5.grown (by rw [setCell_far _ hblbn]; exact bl6), ?_, (v7.trans b6.below).setCell hB.1 _⟩
          obtain ⟨a1, a2⟩ := v6
          refine ⟨a1, ?_⟩
          rcases a2 with a2 | ⟨g', cap, cur2, hv, hgg, hh, r⟩
          · exact .inl a2
          · obtain ⟨rfl, _⟩ : g = g' ∧ cq = cap := by simpa using hv
            exact .inr ⟨g, cap, cur2, hv, hgg, by rw [setCell_far _ hgbn, gg6]; exact hh, r⟩
        clear v1 v2 v3 v4 v5 v6 v7 bl6 gg6 g5 b6 n6
        go_wp2_with fail
        go_end0
        exact ⟨rfl, HFF.out⟩

set_option maxRecDepth 100000 in
set_option maxHeartbeats 3200000 in
theorem hold_empty (B bn bl bm bmem cq : Nat) (aq : Option Addr) (h p : Int) (s : Value) (w : World)
    (hB : B ≤ bn ∧ B ≤ bl ∧ B ≤ w.heap.size) (hn : NetB w bn bl bmem (.pointer none)) (hl : LaneB w bl bm (.slice aq 0 cq) s h p) (hq : QB w B (.slice aq 0 cq) []) :
    Calls Try.prog 39 #[.pointer (some ⟨bn, 0, none⟩), .func (.func 40) #[] #[]] w fun e w' => e = .returned (.tuple #[]) ∧ ∃ q', NetB w' bn bl bmem (.pointer none) ∧ LaneB w' bl bm q' s h p ∧ QB w' B q' [] ∧ Below B w w' := by
  obtain ⟨csn, hbn⟩ := hn.blk
  have hbnS := blk_lt hbn
  have hblS := blk_lt hl.blk
  have hmemS := blk_lt hn.mem
  have hblbn : bl ≠ bn := obj_ne hl.blk hbn (by simp)
  have hc260 := hn.c260
  have hf260 := hn.fr 260
  have hc259 := hn.c259
  have hl0 := hl.c0
  have hfl0 := hl.fr 0
  have HN : Hid (NetB w bn bl bmem (.pointer none)) := hn
  have HL : Hid (LaneB w bl bm (.slice aq 0 cq) s h p) := hl
  have HQ : Hid (QB w B (.slice aq 0 cq) []) := hq
  clear hn hl hq
  have hclr0 : ∀ (a : Option Addr) (c : Nat) (w : World) (ty : TypeId), (Builtin.clear_ #[66] ty #[.slice a 0 c]).run Try.prog w = .ok (.tuple #[]) w := by
    intro a c w ty
    cases a <;> simp [Builtin.clear_, run_underlying Try.underlying66]
  go_enter Try.func39, Try.ntmps39
  go_wp2_with fail
  refine (newLane_any _).mono ?_
  rintro e w1 ⟨rfl, hw1⟩
  have old1 : ∀ (b : Nat) (o : Obj), w.heap[b]? = some o → w1.heap[b]? = some o := fun b o ho => by
    rw [hw1, heap_alloc_lt _ _ _ (by have := blk_lt ho; simp; omega), heap_alloc_lt _ _ _ (blk_lt ho)]; exact ho
  have net1 : NetB w1 bn bl bmem (.pointer none) := HN.out.grown ((old1 _ _ hbn).trans hbn.symm) ((old1 _ _ HN.out.mem).trans HN.out.mem.symm)
  have lane1 : LaneB w1 (w.heap.size + 1) w.heap.size (.slice none 0 0) (.slice none 0 0) 0 0 := by
    rw [hw1]; exact heap_alloc_at _ _ _ (by simp)
  have map1 : w1.heap[w.heap.size]? = some (.map #[] 0) := by
    rw [hw1, heap_alloc_lt _ _ _ (by simp)]; exact heap_alloc_new w _
  have main1 : LaneB w1 bl bm (.slice aq 0 cq) s h p := old1 _ _ HL.out
  have bel1 : Below B w w1 := by rw [hw1]; exact ((Below.refl B w).alloc hB.2.2 _).alloc (by simp; omega) _
  have sz1 : w1.heap.size = w.heap.size + 2 := by rw [hw1]; simp
  have q1 : QB w1 B (.slice aq 0 cq) [] := HQ.out.keep (fun b c hb => old1 b _ hb)
  clear hw1 hc260 hf260 hc259 hl0 hfl0 old1
  have x260 := net1.c260
  have xf260 := net1.fr 260
  obtain ⟨w2, hw2⟩ : ∃ x, x = w1.setCell ⟨bn, 260, none⟩ (.pointer (some ⟨w.heap.size + 1, 0, none⟩)) := ⟨_, rfl⟩
  have n2 : NetB w2 bn bl bmem (.pointer (some ⟨w.heap.size + 1, 0, none⟩)) := by rw [hw2]; exact net1.setAside _
  have la2 : LaneB w2 (w.heap.size + 1) w.heap.size (.slice none 0 0) (.slice none 0 0) 0 0 := by rw [hw2]; exact lane1.grown (setCell_far _ (by omega))
  have map2 : w2.heap[w.heap.size]? = some (.map #[] 0) := by rw [hw2, setCell_far _ (by omega)]; exact map1
  have main2 : LaneB w2 bl bm (.slice aq 0 cq) s h p := by rw [hw2]; exact main1.grown (setCell_far _ hblbn)
  have bel2 : Below B w w2 := by rw [hw2]; exact bel1.setCell hB.1 _
  obtain ⟨csb, hbnb⟩ := net1.blk
  have q2 : QB w2 B (.slice aq 0 cq) [] := by rw [hw2]; exact q1.keep (Keep82.setCell hbnb (by simp) _)
  have d259 := n2.c259
  have d0 := main2.c0
  have df0 := main2.fr 0
  have dsame := setCell_same d0
  have HW2 : Hid _ := hw2
  have x259 := net1.c259
  have xl0 := main1.c0
  clear net1 lane1 map1 main1 bel1 q1 hbnb hw2
  by_cases hc : cq = 0
  · subst hc
    go_wp2_with fail
    rw [← HW2.out]
    go_loop [4, 27] (fun tg i => tg = .slice aq 0 0 ∧ i = .int .i64 0) (fun _ _ => 0)
    case atStart => exact ⟨rfl, rfl⟩
    case round =>
      obtain ⟨rfl, rfl⟩ := hrel
      go_wp2_with fail
      refine (f40_any _).mono ?_; rintro e w' ⟨rfl, hw'⟩; rw [hw']; clear hw' w'
      go_wp2_with fail
      refine (runAside_any (B := B) (u := 0) w2 ⟨hB.1, by omega, hB.2.2⟩ (Nat.ne_of_gt hmemS) n2 la2 (QB.nil _ _) (by omega) map2).mono ?_
      rintro e w6 ⟨rfl, n6, b6⟩
      have y260 := n6.c260
      have yf260 := n6.fr 260
      have HFF : Hid (∃ q', NetB (w6.setCell ⟨bn, 260, none⟩ (.pointer none)) bn bl bmem (.pointer none) ∧ LaneB (w6.setCell ⟨bn, 260, none⟩ (.pointer none)) bl bm q' s h p ∧ QB (w6.setCell ⟨bn, 260, none⟩ (.pointer none)) B q' [] ∧ Below B w (w6.setCell ⟨bn, 260, none⟩ (.pointer none))) := by
        have bl6 : w6.heap[bl]? = w2.heap[bl]? := b6.above bl (fun hx => by rcases hx with e | e | e | e <;> first | omega | exact hblbn e | (simp [Value.ownBlock] at e)) (blk_lt main2.blk)
        refine ⟨_, n6.setAside _, main2.grown (by rw [setCell_far _ hblbn]; exact bl6), ?_, (bel2.trans b6.below).setCell hB.1 _⟩
        obtain ⟨a1, a2⟩ := q2
        refine ⟨a1, ?_⟩
        rcases a2 with a2 | ⟨g', cap, cur2, hv, hgg, hh, r⟩
        · exact .inl a2
        · have hgbn : g' ≠ bn := by
            obtain ⟨cs2, hbn2⟩ := n2.blk
            exact obj_ne hh hbn2 (by simp)
          have hg6 : w6.heap[g']? = w2.heap[g']? := b6.above g' (fun hx => by
            rcases hx with e | e | e | e
            · exact hgbn e
            · exact obj_ne hh la2.blk (by simp) e
            · exact obj_ne hh map2 (by simp) e
            · simp [Value.ownBlock] at e) (blk_lt hh)
          exact .inr ⟨g', cap, cur2, hv, hgg, by rw [setCell_far _ hgbn, hg6]; exact hh, r⟩
      clear n2 la2 map2 main2 bel2 q2 n6 b6
      go_wp2_with fail
      go_end0
      exact ⟨rfl, HFF.out⟩
  · have hc' : ¬ 0 = cq := fun e => hc e.symm
    go_wp2_with fail
    rw [← HW2.out]
    go_loop [4, 27] (fun tg i => tg = .slice aq 0 cq ∧ i = .int .i64 0) (fun _ _ => 0)
    case atStart => exact ⟨rfl, rfl⟩
    case round =>
      obtain ⟨rfl, rfl⟩ := hrel
      go_wp2_with fail
      refine (f40_any _).mono ?_; rintro e w' ⟨rfl, hw'⟩; rw [hw']; clear hw' w'
      go_wp2_with fail
      refine (runAside_any (B := B) (u := 0) w2 ⟨hB.1, by omega, hB.2.2⟩ (Nat.ne_of_gt hmemS) n2 la2 (QB.nil _ _) (by omega) map2).mono ?_
      rintro e w6 ⟨rfl, n6, b6⟩
      have y260 := n6.c260
      have yf260 := n6.fr 260
      have HFF : Hid (∃ q', NetB (w6.setCell ⟨bn, 260, none⟩ (.pointer none)) bn bl bmem (.pointer none) ∧ LaneB (w6.setCell ⟨bn, 260, none⟩ (.pointer none)) bl bm q' s h p ∧ QB (w6.setCell ⟨bn, 260, none⟩ (.pointer none)) B q' [] ∧ Below B w (w6.setCell ⟨bn, 260, none⟩ (.pointer none))) := by
        have bl6 : w6.heap[bl]? = w2.heap[bl]? := b6.above bl (fun hx => by rcases hx with e | e | e | e <;> first | omega | exact hblbn e | (simp [Value.ownBlock] at e)) (blk_lt main2.blk)
        refine ⟨_, n6.setAside _, main2.grown (by rw [setCell_far _ hblbn]; exact bl6), ?_, (bel2.trans b6.below).setCell hB.1 _⟩
        obtain ⟨a1, a2⟩ := q2
        refine ⟨a1, ?_⟩
        rcases a2 with a2 | ⟨g', cap, cur2, hv, hgg, hh, r⟩
        · exact .inl a2
        · have hgbn : g' ≠ bn := by
            obtain ⟨cs2, hbn2⟩ := n2.blk
            exact obj_ne hh hbn2 (by simp)
          have hg6 : w6.heap[g']? = w2.heap[g']? := b6.above g' (fun hx => by
            rcases hx with e | e | e | e
            · exact hgbn e
            · exact obj_ne hh la2.blk (by simp) e
            · exact obj_ne hh map2 (by simp) e
            · simp [Value.ownBlock] at e) (blk_lt hh)
          exact .inr ⟨g', cap, cur2, hv, hgg, by rw [setCell_far _ hgbn, hg6]; exact hh, r⟩
      clear n2 la2 map2 main2 bel2 q2 n6 b6
      go_wp2_with fail
      go_end0
      exact ⟨rfl, HFF.out⟩
end Go.Proofs.Qxb6612833a

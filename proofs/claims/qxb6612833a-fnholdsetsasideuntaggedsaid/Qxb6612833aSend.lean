/- The walk of ZZnetSend, and its contract. -/
import Derived.Test.Qxb6612833aRun
import Derived.Deep.RegionHeld3
import Derived.Deep.RegionLaw
import Derived.Deep.AppendLies
import Derived.Deep.DrawnRows
namespace Go.Proofs.Qxb6612833a
open Go.ChangeShapes Go.WideShapes Go.ChangeAt Go.RowKit
open Go.ChangeMaps (setBlock)
def emptyS : ByteArray := ⟨#[]⟩
/-- An envelope's cells: from, to, a message of nothing, no error, the tag. -/
def envC (s0 s1 : ByteArray) (tag : Int) : Array Value :=
  #[.string s0, .string s1, .int .u8 0, .string emptyS, .int .u8 0, .bool false, .string emptyS, .slice none 0 0, .string emptyS, .slice none 0 0] ++ Array.replicate 32 (.int .u8 0) ++ #[.int .u32 0, .slice none 0 0, .string emptyS, .slice none 0 0, .nilIface, .int .i64 tag]
theorem envC_size (s0 s1 : ByteArray) (tag : Int) : (envC s0 s1 tag).size = 48 := by kernel_rfl
theorem envC_one (s0 s1 : ByteArray) (tag : Int) : ∀ u ∈ (envC s0 s1 tag).toList, u.oneCell' = true := by
  intro u hu
  have e : (envC s0 s1 tag).toList.all (fun u => u.oneCell') = true := by kernel_rfl
  exact List.all_eq_true.1 e u hu
theorem info82 : (Try.prog.info? 82).map (fun i => (i.zero, i.size, i.bytes)) = some (some (.agg (envC emptyS emptyS 0)), 48, 272) := by kernel_rfl
theorem run_env (w : World) (s0 s1 : ByteArray) (tag : Int) : (Instr.build 82 #[(0, .string s0), (1, .string s1), (4, .int .i64 tag)]).run Try.prog w = .ok (.agg (envC s0 s1 tag)) w := by kernel_rfl
theorem envC_lit (s0 s1 : ByteArray) (tag : Int) : (envC s0 s1 tag).toList = [.string s0, .string s1, .int .u8 0, .string ⟨#[]⟩, .int .u8 0, .bool false, .string ⟨#[]⟩, .slice none 0 0, .string ⟨#[]⟩, .slice none 0 0,
    .int .u8 0, .int .u8 0, .int .u8 0, .int .u8 0, .int .u8 0, .int .u8 0, .int .u8 0, .int .u8 0, .int .u8 0, .int .u8 0, .int .u8 0, .int .u8 0, .int .u8 0, .int .u8 0, .int .u8 0, .int .u8 0, .int .u8 0, .int .u8 0, .int .u8 0, .int .u8 0, .int .u8 0, .int .u8 0, .int .u8 0, .int .u8 0, .int .u8 0, .int .u8 0, .int .u8 0, .int .u8 0, .int .u8 0, .int .u8 0, .int .u8 0, .int .u8 0,
    .int .u32 0, .slice none 0 0, .string ⟨#[]⟩, .slice none 0 0, .nilIface, .int .i64 tag] := by kernel_rfl
theorem envC_arr (s0 s1 : ByteArray) (tag : Int) : (#[.string s0, .string s1, .int .u8 0, .string ⟨#[]⟩, .int .u8 0, .bool false, .string ⟨#[]⟩, .slice none 0 0, .string ⟨#[]⟩, .slice none 0 0,
    .int .u8 0, .int .u8 0, .int .u8 0, .int .u8 0, .int .u8 0, .int .u8 0, .int .u8 0, .int .u8 0, .int .u8 0, .int .u8 0, .int .u8 0, .int .u8 0, .int .u8 0, .int .u8 0, .int .u8 0, .int .u8 0, .int .u8 0, .int .u8 0, .int .u8 0, .int .u8 0, .int .u8 0, .int .u8 0, .int .u8 0, .int .u8 0, .int .u8 0, .int .u8 0, .int .u8 0, .int .u8 0, .int .u8 0, .int .u8 0, .int .u8 0, .int .u8 0,
    .int .u32 0, .slice none 0 0, .string ⟨#[]⟩, .slice none 0 0, .nilIface, .int .i64 tag] : Array Value) = envC s0 s1 tag := by kernel_rfl
def qOf (bl : Nat) (x : World) : Value := (x.cell? ⟨bl, 0, none⟩).getD .nilFunc
theorem qOf_of {bl : Nat} {x : World} {v : Value} (h : x.cell? ⟨bl, 0, none⟩ = some v) : x.cell? ⟨bl, 0, none⟩ = some (qOf bl x) := by unfold qOf; rw [h]; rfl

attribute [local go_sem ↓] Go.wp_at_zero Go.wp_at_succ
set_option maxRecDepth 100000 in
set_option maxHeartbeats 3200000 in
theorem netSend_core (B bn bl n : Nat) (s0 s1 : ByteArray) (tag : Int) (q : Value) (xs : List Value) (w : World)
    (c1 : w.cell? ⟨bn, 259, none⟩ = some (.pointer (some ⟨bl, 0, none⟩))) (c2 : w.cell? ⟨bl, 0, none⟩ = some q) (f2 : w.frozen? ⟨bl, 0, none⟩ = false)
    (hown : w.ownsRow B 82 48 q n xs) (hB : B ≤ w.heap.size) (hn : n ≤ 100000)
    (an : q.ownBlock ≠ some bn) (al : q.ownBlock ≠ some bl) :
    Calls Try.prog 33 #[.pointer (some ⟨bn, 0, none⟩), .string s0, .string s1, .int .i64 tag] w fun e w' => e = .returned (.tuple #[]) ∧ ∃ (g cap : Nat) (w1 : World),
      w1.ownsRow B 82 48 (.slice (some ⟨g, 0, none⟩) (n + 1) cap) (n + 1) (xs ++ (envC s0 s1 tag).toList) ∧ (q.ownBlock = some g ∨ g = w.heap.size + 1) ∧ (w.alloc (.cells (envC s0 s1 tag) 82)).grownBy w1 q.ownBlock ∧ w' = w1.setCell ⟨bl, 0, none⟩ (.slice (some ⟨g, 0, none⟩) (n + 1) cap) := by
  obtain ⟨i0, hi0, hz0, hz1, hz2⟩ := info_parts info82
  have lg := World.block_lt_of_cell? w _ c1
  have lk := World.block_lt_of_cell? w _ c2
  have c1a : ∀ o, (w.alloc o).cell? ⟨bn, 259, none⟩ = some (.pointer (some ⟨bl, 0, none⟩)) := fun o => (World.grownBy_alloc w o none).cell c1 (by simp)
  have c2a : ∀ o, (w.alloc o).cell? ⟨bl, 0, none⟩ = some q := fun o => (World.grownBy_alloc w o none).cell c2 (by simp)
  go_enter Try.func33, Try.ntmps33
  go_wp2_with fail
  go_region_law
    ((refine step_append_lies _ (by rfl) _ _ _ (by rfl) B 82 i0 _ 48 272 Try.underlying66 hi0 hz0 hz1 hz2 rfl (by omega) q n xs (by rfl) ((hown.alloc _).drew)
        ⟨w.heap.size, 0, none⟩ 1 1 (envC s0 s1 tag).toList (by rfl) (by rw [Array.length_toList, envC_size]) (World.news_of_block (t := 82) (fr := (0, 0)) (by rw [envC_arr]; exact heap_alloc_new w _)) (envC_one s0 s1 tag)
        (by omega) (by unfold maxLen; omega) (by omega) (by simp; omega) (w.heap.size + 1) (by simp) ?_; intro gg cap w1 hown1 hgrow hat hlt
      have hc1 : w1.cell? ⟨bn, 259, none⟩ = some (.pointer (some ⟨bl, 0, none⟩)) := hgrow.cell ((World.grownBy_alloc w _ none).cell c1 (by simp)) (Ne.symm an)
      have hc2 : w1.cell? ⟨bl, 0, none⟩ = some q := hgrow.cell ((World.grownBy_alloc w _ none).cell c2 (by simp)) (Ne.symm al)
      have hf2 : w1.frozen? ⟨bl, 0, none⟩ = false := by
        rw [hgrow.frozen_far _ (by simp; omega) (Ne.symm al)]
        show World.frozen? (World.alloc _ _) _ = _
        rw [(World.grownBy_alloc w _ none).frozen_far _ lk (by simp)]
        exact f2))
  all_goals
    go_end0
    refine ⟨rfl, gg, cap, w1, hown1, hat, ?_, rfl⟩
    rw [← envC_arr]
    exact ⟨hgrow.os, hgrow.tape, hgrow.output, hgrow.size, hgrow.block⟩

/-- The cells of envelopes from a to b, by their tags. -/
def envs (tags : List Int) : List Value := tags.flatMap fun t => (envC ⟨#[97]⟩ ⟨#[98]⟩ t).toList
/-- The messages in transit. -/
def QB (w : World) (B : Nat) (q : Value) (tags : List Int) : Prop := w.ownsRow B 82 48 q tags.length (envs tags)

theorem QB.keep {w w' : World} {B : Nat} {q : Value} {tags : List Int} (h : QB w B q tags) (hk : Keep82 w w') : QB w' B q tags := by
  obtain ⟨h1, h2⟩ := h
  refine ⟨h1, ?_⟩
  rcases h2 with h2 | ⟨g, cap, cur, hv, hg, hh, r⟩
  · exact .inl h2
  · exact .inr ⟨g, cap, cur, hv, hg, hk _ _ hh, r⟩
theorem QB.far {w : World} {B : Nat} {q : Value} {tags : List Int} (h : QB w B q tags) {b : Nat} {o : Obj} (hb : w.heap[b]? = some o) (ho : ∀ c, o ≠ .cells c 82 (0, 0)) : q.ownBlock ≠ some b := by
  intro e
  rcases h.2 with ⟨h1, _⟩ | ⟨g1, cap1, cur, h1, h2, h3, _⟩
  · rw [h1] at e; simp [Value.ownBlock] at e
  · rw [h1] at e
    simp [Value.ownBlock] at e
    subst e
    rw [h3] at hb
    exact ho cur (by cases hb; rfl)
theorem QB.nil (w : World) (B : Nat) : QB w B (.slice none 0 0) [] := World.ownsRow_nil _ _ _ _

theorem netSend_any {B bn bl bm bmem N : Nat} {h p lo : Int} {q s asd : Value} {L : Int → Nat} {tags : List Int} (tag : Int) (w : World) (hb : Bd B bn bl bm bmem) (hn : NetB w bn bl bmem asd) (hl : LaneB w bl bm q s h p) (ht : TG w B bm lo N L) (hq : QB w B q tags) (hT : tags.length ≤ 100000) :
    Calls Try.prog 33 #[.pointer (some ⟨bn, 0, none⟩), .string ⟨#[97]⟩, .string ⟨#[98]⟩, .int .i64 tag] w fun e w' => e = .returned (.tuple #[]) ∧ ∃ q', NetB w' bn bl bmem asd ∧ LaneB w' bl bm q' s h p ∧ TG w' B bm lo N L ∧ QB w' B q' (tags ++ [tag]) ∧ Below B w w' := by
  obtain ⟨cs, hbn⟩ := hn.blk
  obtain ⟨es, ck, G, D, h1, h2, h3, h4⟩ := ht
  have hB : B ≤ w.heap.size := Nat.le_of_lt (Nat.lt_of_le_of_lt hb.m (blk_lt h1))
  have an := hq.far hbn (fun c e => by simp at e)
  have al := hq.far hl.blk (fun c e => by simp at e)
  refine (netSend_core B bn bl tags.length ⟨#[97]⟩ ⟨#[98]⟩ tag q (envs tags) w hn.c259 hl.c0 (hl.fr _) hq hB hT an al).mono ?_
  rintro e w' ⟨rfl, g, cap, w1, k1, k2, k3, rfl⟩
  have hgw : w.grownBy w1 q.ownBlock := (World.grownBy_alloc w _ _).trans k3
  have far : ∀ (b : Nat) (o : Obj), w.heap[b]? = some o → (∀ c, o ≠ .cells c 82 (0, 0)) → w1.heap[b]? = w.heap[b]? := fun b o ho hne => hgw.block b (blk_lt ho) (Ne.symm (hq.far ho hne))
  have n1 : NetB w1 bn bl bmem asd := hn.grown (far bn _ hbn (fun c e => by simp at e)) (far bmem _ hn.mem (fun c => by simp))
  have l1 : LaneB w1 bl bm q s h p := hl.grown (far bl _ hl.blk (fun c e => by simp at e))
  have t1 : TG w1 B bm lo N L := TG.keep ⟨es, ck, G, D, h1, h2, h3, h4⟩ (fun b c e hbc he => by
      rw [far b _ hbc (fun c' e' => by rcases he with rfl | rfl <;> simp at e')]; exact hbc) (far bm _ h1 (fun c => by simp))
  have b1 : Below B w w1 := (Below.refl B w).grown hgw hB (fun k hk => (hq.lt k hk).1)
  obtain ⟨s1, s2, s3, s4⟩ := lane_store hb n1 l1 t1 0 (.slice (some ⟨g, 0, none⟩) (tags.length + 1) cap)
  refine ⟨rfl, _, s1, l1.setQueue _, s2, ?_, b1.trans s3⟩
  have k1' : QB w1 B (.slice (some ⟨g, 0, none⟩) (tags.length + 1) cap) (tags ++ [tag]) := by
    unfold QB
    have e1 : envs (tags ++ [tag]) = envs tags ++ (envC ⟨#[97]⟩ ⟨#[98]⟩ tag).toList := by simp [envs]
    rw [e1, List.length_append]
    exact k1
  exact k1'.keep s4
end Go.Proofs.Qxb6612833a

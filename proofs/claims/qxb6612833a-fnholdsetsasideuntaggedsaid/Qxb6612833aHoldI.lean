/- Hold: what its loop keeps. -/
import Derived.Test.Qxb6612833aAside
import Derived.Deep.RegionLaw
import Derived.Deep.DrawnRows
namespace Go.Proofs.Qxb6612833a
open Go.ChangeShapes Go.WideShapes Go.ChangeAt Go.RowKit
open Go.ChangeMaps (setBlock)

theorem run_bs (w : World) (s0 s1 : ByteArray) (t : Int) : (Instr.buildSlice 66 1 #[(0, .agg (envC s0 s1 t))]).run Try.prog w = .ok (.slice (some ⟨w.heap.size, 0, none⟩) 1 1) (w.alloc (.cells (envC s0 s1 t) 82)) := by kernel_rfl

def tgd (l : List Int) : List Int := l.filter fun t => !(t == -1)
def unt (l : List Int) : Nat := (l.filter fun t => t == -1).length
theorem tgd_yes (l : List Int) (t : Int) (h : (t == -1) = false) : tgd (l ++ [t]) = tgd l ++ [t] := by simp [tgd, h]
theorem tgd_no (l : List Int) (t : Int) (h : (t == -1) = true) : tgd (l ++ [t]) = tgd l := by simp [tgd, h]
theorem unt_yes (l : List Int) (t : Int) (h : (t == -1) = false) : unt (l ++ [t]) = unt l := by simp [unt, h]
theorem unt_no (l : List Int) (t : Int) (h : (t == -1) = true) : unt (l ++ [t]) = unt l + 1 := by simp [unt, h]
theorem tgd_le (l : List Int) : (tgd l).length ≤ l.length := List.length_filter_le _ _
theorem unt_le (l : List Int) : unt l ≤ l.length := List.length_filter_le _ _

def env (t : Int) : Array Value := envC ⟨#[97]⟩ ⟨#[98]⟩ t
theorem env_size (t : Int) : (env t).size = 48 := envC_size _ _ _
theorem envs_snoc (T : List Int) (t : Int) : envs (T ++ [t]) = envs T ++ (env t).toList := by simp [envs, env]
theorem envs_len (T : List Int) : (envs T).length = T.length * 48 := by
  induction T with
  | nil => rfl
  | cons a l ih =>
    have e : envs (a :: l) = (env a).toList ++ envs l := by simp [envs, env]
    rw [e, List.length_append, ih, Array.length_toList, env_size, List.length_cons]
    omega

/-- The row of the messages in transit at round k: the tagged ones so far at its head, those still to come in their places. -/
def GB (w : World) (g cq : Nat) (tags : List Int) (k : Nat) (T : List Int) : Prop :=
  ∃ cur : Array Value, w.heap[g]? = some (.cells cur 82 (0, 0)) ∧ cur.size = cq * 48 ∧ cur.toList.take (T.length * 48) = envs T ∧ ∀ j t i, k ≤ j → tags[j]? = some t → i < 48 → cur[j * 48 + i]? = (env t)[i]?

theorem GB.far {w w' : World} {g cq : Nat} {tags : List Int} {k : Nat} {T : List Int} (h : GB w g cq tags k T) (hw : w'.heap[g]? = w.heap[g]?) : GB w' g cq tags k T := by
  obtain ⟨cur, h1, h2, h3, h4⟩ := h
  exact ⟨cur, hw.trans h1, h2, h3, h4⟩
theorem GB.skip {w : World} {g cq : Nat} {tags : List Int} {k : Nat} {T : List Int} (h : GB w g cq tags k T) : GB w g cq tags (k + 1) T := by
  obtain ⟨cur, h1, h2, h3, h4⟩ := h
  exact ⟨cur, h1, h2, h3, fun j t i hj => h4 j t i (by omega)⟩
theorem GB.range {w : World} {g cq : Nat} {tags : List Int} {k : Nat} {T : List Int} (h : GB w g cq tags k T) {t : Int} (hk : tags[k]? = some t) : w.rangeAt g (k * 48) (env t).toList := by
  obtain ⟨cur, h1, h2, h3, h4⟩ := h
  intro j v hv
  have hj : j < 48 := by
    have := (List.getElem?_eq_some_iff.1 hv).1
    rw [Array.length_toList, env_size] at this
    exact this
  rw [blk_cell h1, h4 k t j (Nat.le_refl _) hk hj]
  simpa using hv
theorem QB.gb {w : World} {B g n cq : Nat} {tags : List Int} (h : QB w B (.slice (some ⟨g, 0, none⟩) n cq) tags) : GB w g cq tags 0 [] ∧ n = tags.length ∧ tags.length ≤ cq ∧ B ≤ g := by
  rcases h.2 with ⟨h1, _⟩ | ⟨g1, cap1, cur, h1, h2, h3, h4, h5, h6, h7⟩
  · cases h1
  · obtain ⟨rfl, rfl, rfl⟩ : g = g1 ∧ n = tags.length ∧ cq = cap1 := by simpa using h1
    refine ⟨⟨cur, h3, h6, by simp [envs], fun j t i _ hj hi => ?_⟩, rfl, h4, h2⟩
    have hjl : j < tags.length := (List.getElem?_eq_some_iff.1 hj).1
    have e1 : cur.toList[j * 48 + i]? = (List.take (tags.length * 48) cur.toList)[j * 48 + i]? := by rw [List.getElem?_take, if_pos (by omega)]
    rw [← Array.getElem?_toList, e1, h7, envs_at tags j i t hj hi, Array.getElem?_toList]
    rfl

/-- What the row becomes when a tagged one is put at its place. -/
def pushed (cur : Array Value) (n : Nat) (t : Int) : Array Value := (cur.toList.take (n * 48) ++ (env t).toList ++ cur.toList.drop (n * 48 + (env t).toList.length)).toArray

theorem GB.push {w : World} {g cq : Nat} {tags : List Int} {k : Nat} {T : List Int} {cur : Array Value} (h1 : w.heap[g]? = some (.cells cur 82 (0, 0))) (h2 : cur.size = cq * 48) (h3 : cur.toList.take (T.length * 48) = envs T)
    (h4 : ∀ j t i, k ≤ j → tags[j]? = some t → i < 48 → cur[j * 48 + i]? = (env t)[i]?) (t : Int) (hT : T.length ≤ k) (hk : k < cq) : GB (w.setRow g (pushed cur T.length t)) g cq tags (k + 1) (T ++ [t]) := by
  have hl : (env t).toList.length = 48 := by rw [Array.length_toList, env_size]
  have hp : (cur.toList.take (T.length * 48)).length = T.length * 48 := by
    have e : cur.toList.length = cur.size := Array.length_toList
    rw [List.length_take, e]; omega
  refine ⟨_, setRow_near h1 _, ?_, ?_, ?_⟩
  · unfold pushed
    simp only [List.size_toArray, List.length_append, hl, hp, List.length_drop, Array.length_toList]
    omega
  · unfold pushed
    rw [envs_snoc, ← h3, List.length_append]
    have e : (T.length + [t].length) * 48 = (cur.toList.take (T.length * 48) ++ (env t).toList).length := by rw [List.length_append, hp, hl]; simp; omega
    rw [e]
    exact List.take_left
  · intro j t' i hj hjt hi
    unfold pushed
    rw [List.getElem?_toArray, List.getElem?_append_right (by rw [List.length_append, hp, hl]; omega), List.getElem?_drop]
    have e : T.length * 48 + (env t).toList.length + (j * 48 + i - (cur.toList.take (T.length * 48) ++ (env t).toList).length) = j * 48 + i := by rw [List.length_append, hp, hl]; omega
    rw [e, Array.getElem?_toList]
    exact h4 j t' i (by omega) hjt hi

/-- 'append' within the capacity, exactly: at the list of a plain region's operations. -/
theorem wpList_append_in {ops : Array Oper} {rest : List Oper} {o : Oper} {a : Act} {w : World} {Q : Exit → Act → World → Prop} (hgd : o.guard = none) (s x : Operand)
    (ho : o.op = .call { callee := .builtin .append, args := #[s, x], argTypes := #[66, 66] }) (g n cap : Nat) (cur : Array Value) (hs : a.eval s = .slice (some ⟨g, 0, none⟩) n cap) (hg : w.heap[g]? = some (.cells cur 82 (0, 0)))
    (ad : Addr) (t : Int) (hx : a.eval x = .slice (some ad) 1 1) (hnews : ∀ j u, (env t).toList[j]? = some u → w.cell? (ad.add j) = some u) (hroom : n + 1 ≤ cap) (hfit : n * 48 + 48 ≤ cur.size)
    (h : wpList Try.prog ops Q rest (a.put o.dst (.slice (some ⟨g, 0, none⟩) (n + 1) cap)) (w.setRow g (pushed cur n t))) : wpList Try.prog ops Q (o :: rest) a w := by
  obtain ⟨i0, hi0, hz0, hz1, hz2⟩ := info_parts info82
  have hr := run_append_room (P := Try.prog) w 66 o.type 82 i0 Try.underlying66 hi0 g n cap cur hg ad 1 1 (env t).toList (by rw [hz1, Array.length_toList, env_size]) hnews (envC_one _ _ _) hroom (by rw [hz1, Array.length_toList, env_size]; exact hfit)
  refine wpList_plain hgd fun K hK => ?_
  unfold Oper.wp execOp
  simp only [ho, resolve, invoke, builtin, Sem.run_bind, Sem.run_pure, Result.andThen_ok, List.map_toArray, List.map_cons, List.map_nil, hs, hx, hr]
  refine hK _ _ ?_
  rw [hz1]
  exact h

/-- The state of 'Hold' at the head of round k. S: the heap's size when it began. -/
structure HI (B S bn bl bmem g cq : Nat) (tags : List Int) (w wr : World) (k : Nat) (qa : Value) : Prop where
  net : NetB wr bn bl bmem (.pointer (some ⟨S + 1, 0, none⟩))
  lane : LaneB wr (S + 1) S qa (.slice none 0 0) 0 0
  map : wr.heap[S]? = some (.map #[] 0)
  qb : QB wr S qa (List.replicate (unt (tags.take k)) (-1))
  gb : GB wr g cq tags k (tgd (tags.take k))
  far : ∀ (b : Nat) (o : Obj), w.heap[b]? = some o → b ≠ g → b ≠ bn → wr.heap[b]? = some o
  bel : Below B w wr
  sz : S + 2 ≤ wr.heap.size

theorem take_get (tags : List Int) (k : Nat) (t : Int) (h : tags[k]? = some t) : tags.take (k + 1) = tags.take k ++ [t] := by
  have hk : k < tags.length := (List.getElem?_eq_some_iff.1 h).1
  rw [List.take_succ_eq_append_getElem hk]
  rw [List.getElem?_eq_getElem hk] at h
  simp at h
  rw [h]

theorem QB.base {w : World} {B B' : Nat} {q : Value} {tags : List Int} (h : QB w B q tags) (hb : B' ≤ B) : QB w B' q tags := by
  obtain ⟨h1, h2⟩ := h
  refine ⟨h1, ?_⟩
  rcases h2 with h2 | ⟨g, cap, cur, hv, hg, r⟩
  · exact .inl h2
  · exact .inr ⟨g, cap, cur, hv, Nat.le_trans hb hg, r⟩

theorem HI.tagged {B S bn bl bmem g cq : Nat} {tags : List Int} {w wr : World} {k : Nat} {qa : Value} (h : HI B S bn bl bmem g cq tags w wr k qa) (hg : B ≤ g ∧ g < S) {t : Int} (hk : tags[k]? = some t) (ht : (t == -1) = false) (hkc : k < cq)
    {cur : Array Value} (h1 : wr.heap[g]? = some (.cells cur 82 (0, 0))) (o1 o2 : Obj) : HI B S bn bl bmem g cq tags w (((wr.alloc o1).alloc o2).setRow g (pushed cur (tgd (tags.take k)).length t)) (k + 1) qa := by
  have e := take_get tags k t hk
  have hsz := h.sz
  have old : ∀ (b : Nat) (o : Obj), wr.heap[b]? = some o → b ≠ g → (((wr.alloc o1).alloc o2).setRow g (pushed cur (tgd (tags.take k)).length t)).heap[b]? = some o := fun b o ho hb => by
    rw [setRow_far _ hb, heap_alloc_lt _ _ _ (by have := blk_lt ho; simp; omega), heap_alloc_lt _ _ _ (blk_lt ho)]
    exact ho
  obtain ⟨csn, hbn⟩ := h.net.blk
  obtain ⟨cur', g1, g2, g3, g4⟩ := h.gb
  obtain rfl : cur' = cur := by rw [g1] at h1; cases h1; rfl
  have hg1 : ((wr.alloc o1).alloc o2).heap[g]? = some (.cells cur' 82 (0, 0)) := by
    rw [heap_alloc_lt _ _ _ (by simp; omega), heap_alloc_lt _ _ _ (by omega)]; exact g1
  refine ⟨h.net.grown ((old bn _ hbn (obj_ne hbn g1 (by simp))).trans hbn.symm) ((old bmem _ h.net.mem (obj_ne h.net.mem g1 (by simp))).trans h.net.mem.symm), old _ _ h.lane (by omega), old _ _ h.map (by omega), ?_, ?_, ?_, ?_, by simp [World.setRow]; omega⟩
  · rw [e, unt_yes _ _ ht]
    obtain ⟨a1, a2⟩ := h.qb
    refine ⟨a1, ?_⟩
    rcases a2 with a2 | ⟨g', cap, cur2, hv, hgg, hh, r⟩
    · exact .inl a2
    · exact .inr ⟨g', cap, cur2, hv, hgg, old _ _ hh (by omega), r⟩
  · rw [e, tgd_yes _ _ ht]
    refine GB.push hg1 g2 g3 g4 t ?_ hkc
    have := tgd_le (tags.take k)
    have := List.length_take_le k tags
    omega
  · intro b o ho hb hb'
    exact old b o (h.far b o ho hb hb') hb
  · have b1 : Below B w ((wr.alloc o1).alloc o2) := (h.bel.alloc (by omega) _).alloc (by simp; omega) _
    exact b1.trans ⟨rfl, rfl, rfl, by simp [World.setRow], fun k' hk' => setRow_far _ (by omega)⟩

theorem HI.untagged {B S bn bl bmem g cq : Nat} {tags : List Int} {w wr : World} {k : Nat} {qa : Value} (h : HI B S bn bl bmem g cq tags w wr k qa) (hg : B ≤ g ∧ g < S) (hB : B ≤ S) (hS : w.heap.size = S) {t : Int} (hk : tags[k]? = some t) (ht : (t == -1) = true)
    {g' cap : Nat} {w1 : World} (o1 o2 : Obj) (hown : w1.ownsRow S 82 48 (.slice (some ⟨g', 0, none⟩) (unt (tags.take k) + 1) cap) (unt (tags.take k) + 1) (envs (List.replicate (unt (tags.take k)) (-1)) ++ (env (-1)).toList))
    (hgrow : ((wr.alloc o1).alloc o2).grownBy w1 qa.ownBlock) :
    HI B S bn bl bmem g cq tags w (w1.setCell ⟨S + 1, 0, none⟩ (.slice (some ⟨g', 0, none⟩) (unt (tags.take k) + 1) cap)) (k + 1) (.slice (some ⟨g', 0, none⟩) (unt (tags.take k) + 1) cap) := by
  have e := take_get tags k t hk
  have hsz := h.sz
  have hgw : wr.grownBy w1 qa.ownBlock := ((World.grownBy_alloc wr _ _).trans (World.grownBy_alloc _ _ _)).trans hgrow
  have hqlt : ∀ x, qa.ownBlock = some x → S ≤ x ∧ x < wr.heap.size := fun x hx => h.qb.lt x hx
  have far1 : ∀ (b : Nat) (o : Obj), wr.heap[b]? = some o → (∀ c, o ≠ .cells c 82 (0, 0)) → w1.heap[b]? = some o := fun b o ho hne => (hgw.block b (blk_lt ho) (Ne.symm (h.qb.far ho hne))).trans ho
  have old1 : ∀ (b : Nat) (o : Obj), wr.heap[b]? = some o → b < S → w1.heap[b]? = some o := fun b o ho hb => (hgw.block b (blk_lt ho) (fun e => by have := hqlt b e.symm; omega)).trans ho
  obtain ⟨csn, hbn⟩ := h.net.blk
  have lane1 : LaneB w1 (S + 1) S qa (.slice none 0 0) 0 0 := far1 _ _ h.lane (fun c e => by simp at e)
  have net1 : NetB w1 bn bl bmem (.pointer (some ⟨S + 1, 0, none⟩)) := h.net.grown ((far1 bn _ hbn (fun c e => by simp at e)).trans hbn.symm) ((far1 bmem _ h.net.mem (fun c => by simp)).trans h.net.mem.symm)
  have map1 : w1.heap[S]? = some (.map #[] 0) := far1 _ _ h.map (fun c => by simp)
  obtain ⟨cs1, hbn1⟩ := net1.blk
  have kk : Keep82 w1 (w1.setCell ⟨S + 1, 0, none⟩ (.slice (some ⟨g', 0, none⟩) (unt (tags.take k) + 1) cap)) := Keep82.setCell lane1.blk (by simp) _
  refine ⟨net1.grown (setCell_far _ (obj_ne hbn1 lane1.blk (by simp))) (setCell_far _ (obj_ne net1.mem lane1.blk (by simp))), lane1.setQueue _, by rw [setCell_far _ (by omega)]; exact map1, ?_, ?_, ?_, ?_, by have := hgw.size; simp; omega⟩
  · rw [e, unt_no _ _ ht]
    have q1 : QB w1 S (.slice (some ⟨g', 0, none⟩) (unt (tags.take k) + 1) cap) (List.replicate (unt (tags.take k) + 1) (-1)) := by
      unfold QB
      rw [List.replicate_succ', envs_snoc, List.length_append, List.length_replicate]
      exact hown
    exact q1.keep kk
  · rw [e, tgd_no _ _ ht]
    refine (h.gb.skip).far ?_
    obtain ⟨cur', g1, _⟩ := h.gb
    rw [setCell_far _ (by omega)]
    exact (old1 g _ g1 hg.2).trans g1.symm
  · intro b o ho hb hb'
    have hbS := h.far b o ho hb hb'
    have hlt : b < S := by rw [← hS]; exact blk_lt ho
    rw [setCell_far _ (by omega)]
    exact old1 b o hbS hlt
  · have b1 : Below B w w1 := h.bel.grown hgw (by omega) (fun x hx => by have := hqlt x hx; omega)
    exact b1.setCell (by show B ≤ S + 1; omega) _

def rowOf (w : World) (b : Nat) : Array Value := match w.heap[b]? with
  | some (.cells c _ _) => c
  | _ => #[]
/-- Block b is an envelope's. -/
def Is82 (w : World) (b : Nat) : Prop := ∃ c : Array Value, w.heap[b]? = some (.cells c 82 (0, 0)) ∧ c.size = 48
theorem Is82.range {w : World} {b : Nat} (h : Is82 w b) : w.rangeAt b 0 (rowOf w b).toList ∧ (rowOf w b).size = 48 := by
  obtain ⟨c, h1, h2⟩ := h
  have e : rowOf w b = c := by unfold rowOf; rw [h1]
  rw [e]
  refine ⟨fun j v hv => ?_, h2⟩
  rw [blk_cell h1, Nat.zero_add]
  simpa using hv
theorem wp_load82 {dst : Option Tmp} {ty : TypeId} {pos : String} {aft : Array Edge} {x : Operand} {a : Act} {w : World} {K : Act → World → Prop} {Q : Exit → Act → World → Prop} {b : Nat} (hx : a.eval x = .pointer (some ⟨b, 0, none⟩)) (hr : Is82 w b) :
    Oper.wp Try.prog { dst := dst, op := .load 82 x, type := ty, pos := pos, after := aft, guard := none } a w K Q = K (a.put dst (.agg (rowOf w b))) w := by
  have h := hr.range
  have hrun := run_loadVar_mid (P := Try.prog) w b 0 82 (rowOf w b).toList _ h.1 Try.underlying82 rfl (by rw [size82, Array.length_toList, h.2])
  unfold Oper.wp execOp
  simp only [hx, Instr.loadAt, Instr.sureAddr, Sem.run_bind, Sem.run_pure, Result.andThen_ok, hrun, Array.toArray_toList]
  rfl
end Go.Proofs.Qxb6612833a

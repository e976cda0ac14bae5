/- The walk of advance where messages without a tag are in transit to nobody. -/
import Derived.Test.Qxb6612833aHand
namespace Go.Proofs.Qxb6612833a
open Go.ChangeShapes Go.WideShapes Go.ChangeAt Go.RowKit
open Go.ChangeMaps (setBlock)

theorem size82 : (Try.prog.info? 82).map (·.size) = some 48 := by kernel_rfl

theorem envs_at : ∀ (tags : List Int) (k j : Nat) (t : Int), tags[k]? = some t → j < 48 → (envs tags)[k * 48 + j]? = (envC ⟨#[97]⟩ ⟨#[98]⟩ t).toList[j]?
  | [], k, j, t, h, _ => by simp at h
  | a :: l, 0, j, t, h, hj => by
    simp at h
    subst h
    have e : envs (a :: l) = (envC ⟨#[97]⟩ ⟨#[98]⟩ a).toList ++ envs l := by simp [envs]
    rw [e, Nat.zero_mul, Nat.zero_add, List.getElem?_append_left (by rw [Array.length_toList, envC_size]; exact hj)]
  | a :: l, k + 1, j, t, h, hj => by
    have ih := envs_at l k j t (by simpa using h) hj
    have e : envs (a :: l) = (envC ⟨#[97]⟩ ⟨#[98]⟩ a).toList ++ envs l := by simp [envs]
    rw [e, List.getElem?_append_right (by rw [Array.length_toList, envC_size]; omega), Array.length_toList, envC_size, ← ih]
    congr 1
    omega
/-- The cells of the k-th envelope. -/
theorem QB.range {w : World} {B g n cap : Nat} {tags : List Int} (h : QB w B (.slice (some ⟨g, 0, none⟩) n cap) tags) (k : Nat) (t : Int) (hk : tags[k]? = some t) : w.rangeAt g (k * 48) (envC ⟨#[97]⟩ ⟨#[98]⟩ t).toList := by
  intro j v hv
  have hj : j < 48 := by
    have := (List.getElem?_eq_some_iff.1 hv).1
    rw [Array.length_toList, envC_size] at this
    exact this
  have hkl : k < tags.length := (List.getElem?_eq_some_iff.1 hk).1
  rcases h.2 with ⟨h1, _⟩ | ⟨g1, cap1, cur, h1, h2, h3, h4, h5, h6, h7⟩
  · cases h1
  · cases h1
    rw [blk_cell h3, ← Array.getElem?_toList]
    have e1 : cur.toList[k * 48 + j]? = (List.take (tags.length * 48) cur.toList)[k * 48 + j]? := by rw [List.getElem?_take, if_pos (by omega)]
    rw [e1, h7, envs_at tags k j t hk hj]
    exact hv

theorem alloc_setRow (w : World) (old new : Array Value) (t : TypeId) (fr : Nat × Nat) : (w.alloc (.cells old t fr)).setRow w.heap.size new = w.alloc (.cells new t fr) := by
  have hh : ((w.alloc (.cells old t fr)).setRow w.heap.size new).heap = (w.alloc (.cells new t fr)).heap := by
    apply Array.ext_getElem?
    intro i
    simp only [World.setRow, World.alloc, Array.getElem?_modify, Array.getElem?_push]
    by_cases e : i = w.heap.size
    · subst e; simp
    · have e' : w.heap.size ≠ i := Ne.symm e
      simp [e, e']
  have e : (w.alloc (.cells old t fr)).setRow w.heap.size new = { w with heap := ((w.alloc (.cells old t fr)).setRow w.heap.size new).heap } := rfl
  rw [e, hh]
  rfl
theorem setRow_far {w : World} {g k : Nat} (arr : Array Value) (h : k ≠ g) : (w.setRow g arr).heap[k]? = w.heap[k]? := by
  simp only [World.setRow, Array.getElem?_modify]
  rw [if_neg (Ne.symm h)]
theorem setRow_near {w : World} {g : Nat} {c : Array Value} {e : TypeId} {fr : Nat × Nat} (h : w.heap[g]? = some (.cells c e fr)) (arr : Array Value) : (w.setRow g arr).heap[g]? = some (.cells arr e fr) := by
  simp only [World.setRow, Array.getElem?_modify, if_pos, h]
  rfl
theorem envC_all (s0 s1 : ByteArray) (tag : Int) : (envC s0 s1 tag).all (·.oneCell') = true :=
  Array.all_eq_true_iff_forall_mem.2 fun v hv => envC_one s0 s1 tag v (by simpa using hv)
theorem range_new (w : World) (cs : Array Value) : (w.alloc (.cells cs 82)).rangeAt w.heap.size 0 cs.toList := fun j v hv => by
  rw [blk_cell (heap_alloc_new w _), Nat.zero_add]
  simpa using hv
theorem envC_1 (s0 s1 : ByteArray) (tag : Int) : (envC s0 s1 tag)[1]? = some (.string s1) := by kernel_rfl
theorem envC_47 (s0 s1 : ByteArray) (tag : Int) : (envC s0 s1 tag)[47]? = some (.int .i64 tag) := by kernel_rfl
theorem Betw.of_below {B : Nat} {C : Nat → Prop} {w w' : World} (h : Below w.heap.size w w') (hB : B ≤ w.heap.size) : Betw B C w w' := ⟨h.mono hB, fun k _ hk => h.block k hk⟩
theorem Betw.setRow {B : Nat} {C : Nat → Prop} {a w : World} (h : Betw B C a w) {g : Nat} (hg : B ≤ g ∧ C g) (arr : Array Value) : Betw B C a (w.setRow g arr) :=
  ⟨h.below.trans ⟨rfl, rfl, rfl, by simp [World.setRow], fun k hk => setRow_far _ (by omega)⟩, fun k h1 h2 => by
    have hne : k ≠ g := fun e => h1 (by rw [e]; exact hg.2)
    rw [setRow_far _ hne]; exact h.above k h1 h2⟩
theorem below_keep {w w' : World} (h : Below w.heap.size w w') {b : Nat} {o : Obj} (hb : w.heap[b]? = some o) : w'.heap[b]? = some o := (h.block b (blk_lt hb)).trans hb

set_option maxRecDepth 100000 in
set_option maxHeartbeats 3200000 in
theorem advanceq_core (B : Nat) (C : Nat → Prop) (bn bmain bmem bl bm N : Nat) (asd : Value) (h p : Int) (g nQ cq : Nat) (aS : Option Addr) (ns cs : Nat) (av : Option Addr) (cv : Nat) (es : Array MapEntry) (ck : Nat) (G : Int → List Nat) (D : Nat → Bool) (w : World)
    (hB : (B ≤ bn ∧ C bn) ∧ (B ≤ bl ∧ C bl) ∧ (B ≤ bm ∧ C bm)) (hgC : B ≤ g ∧ C g) (hn : NetB w bn bmain bmem asd) (hl : LaneB w bl bm (.slice (some ⟨g, 0, none⟩) nQ cq) (.slice aS ns cs) h p)
    (hq : QB w B (.slice (some ⟨g, 0, none⟩) nQ cq) (List.replicate nQ (-1))) (hnq : 0 < nQ ∧ nQ ≤ 4096)
    (hm : w.heap[bm]? = some (.map es ck)) (hik : IntKeys es.toList) (ht : TGE w B h N (fun k => look k es.toList) G D) (hC : ∀ k t, h < k → t ∈ G k → C t)
    (hv : (look (h + 1) es.toList).getD (.slice none 0 0) = .slice av (G (h + 1)).length cv) (hmm : bm ≠ bmem)
    (hh : 0 ≤ h ∧ h ≤ 4294967296) (hp : 0 ≤ p ∧ p ≤ 100000) (hN : N ≤ 100000) :
    Calls Try.prog 38 #[.pointer (some ⟨bn, 0, none⟩), .pointer (some ⟨bl, 0, none⟩)] w fun e w' => e = .returned (.tuple #[]) ∧
      ∃ es' ck', IntKeys es'.toList ∧ LI B C bn bmain bmem bl bm asd (.slice aS 0 cs) (.slice (some ⟨g, 0, none⟩) nQ cq) (h + 1) p N es' ck' G D (G (h + 1)) (.slice av (G (h + 1)).length cv) w w' (G (h + 1)).length := by
  have c0 := hl.c0; have c1 := hl.c1; have c2 := hl.c2; have c3 := hl.c3; have c4 := hl.c4
  have f0 := hl.fr 0; have f1 := hl.fr 1; have f2 := hl.fr 2; have f4 := hl.fr 4
  have bml : bm ≠ bl := obj_ne hm hl.blk (by simp)
  obtain ⟨w2, hw2⟩ : ∃ x, x = (w.setCell ⟨bl, 2, none⟩ (.int .i64 (h + 1))).setCell ⟨bl, 0, none⟩ (.slice aS 0 cs) := ⟨_, rfl⟩
  have l2 : LaneB w2 bl bm (.slice aS 0 cs) (.slice aS ns cs) (h + 1) p := by rw [hw2]; exact (hl.setHop _).setQueue _
  have far2 : ∀ b, b ≠ bl → w2.heap[b]? = w.heap[b]? := fun b hb => by rw [hw2, setCell_far _ hb, setCell_far _ hb]
  have hbl := hl.blk
  have k2 : Keep w w2 := fun b c e hb he => by
    rw [far2 b (obj_ne hb hbl (by rcases he with rfl | rfl <;> simp))]; exact hb
  obtain ⟨cs0, hbn⟩ := hn.blk
  have n2 : NetB w2 bn bmain bmem asd := hn.grown (far2 bn (obj_ne hbn hbl (by simp))) (far2 bmem (obj_ne hn.mem hbl (by simp)))
  have b2 : Betw B C w w2 := by rw [hw2]; exact ((Betw.refl _ _ _).setCell hB.2.1 _).setCell hB.2.1 _
  have m2 : w2.heap[bm]? = some (.map es ck) := (far2 bm bml).trans hm
  have t2 := ht.keep k2
  obtain ⟨cur, hg⟩ : ∃ cur, w.heap[g]? = some (.cells cur 82 (0, 0)) ∧ nQ * 48 ≤ cur.size := by
    rcases hq.2 with ⟨h1, _⟩ | ⟨g1, cap1, cur, h1, h2, h3, h4, h5, h6, h7⟩
    · cases h1
    · obtain ⟨rfl, e2, rfl⟩ : g = g1 ∧ nQ = (List.replicate nQ (-1 : Int)).length ∧ cq = cap1 := by simpa using h1
      exact ⟨cur, h3, by rw [h6]; exact Nat.mul_le_mul_right _ (by simpa using h4)⟩
  have g2 : w2.heap[g]? = some (.cells cur 82 (0, 0)) := (far2 g (obj_ne hg.1 hbl (by simp))).trans hg.1
  have q2 : QB w2 B (.slice (some ⟨g, 0, none⟩) nQ cq) (List.replicate nQ (-1)) := hq.keep fun b c hb => (far2 b (obj_ne hb hbl (by simp))).trans hb
  have hr2 : ∀ k, k < nQ → w2.rangeAt g (k * 48) (envC ⟨#[97]⟩ ⟨#[98]⟩ (-1)).toList := fun k hk => q2.range k (-1) (by simp [hk])
  have hrow : w2.ownsRow B 104 1 (.slice av (G (h + 1)).length cv) (G (h + 1)).length ((G (h + 1)).map ptr) := by rw [← hv]; exact ownsRow_keep (ht.at (h + 1) (by omega)) k2
  have hlen : (G (h + 1)).length ≤ N := ht.len (h + 1) (by omega)
  have hnd : (G (h + 1)).Nodup := ht.nodup (h + 1) (by omega)
  have htm : ∀ j t, 0 ≤ j → (G (h + 1))[j]? = some t → (B ≤ t ∧ C t) ∧ TmB w2 t (D t) := fun j t _ hj => ⟨⟨(t2.tm (h + 1) t (by omega) (List.mem_of_getElem? hj)).1, hC (h + 1) t (by omega) (List.mem_of_getElem? hj)⟩, (t2.tm (h + 1) t (by omega) (List.mem_of_getElem? hj)).2⟩
  have hdis : Hid (∀ t, t ∈ G (h + 1) → ∀ k', h + 1 < k' → t ∉ G k') := fun t ht1 k' hk' ht2 => by
    have := ht.own (h + 1) k' t (by omega) (by omega) ht1 ht2
    omega
  have hBs : B ≤ w2.heap.size := Nat.le_of_lt (Nat.lt_of_le_of_lt hB.2.2.1 (blk_lt m2))
  have HR2 : Hid _ := hr2
  have HW2 : Hid _ := hw2
  have HT2 : Hid (TGE w2 B h N (fun k => look k es.toList) G D) := t2
  have HTM2 : Hid _ := htm
  have HND : Hid _ := hnd
  have HROW2 : Hid (w2.ownsRow B 104 1 (.slice av (G (h + 1)).length cv) (G (h + 1)).length ((G (h + 1)).map ptr)) := hrow
  have HV : Hid _ := hv
  have HG2 : Hid _ := g2
  have hgs := hg.2
  clear hw2 ht hv t2 htm hnd hrow far2 k2 hC hr2 q2 hq hg g2
  generalize hts : G (h + 1) = ts at *
  go_enter Try.func38, Try.ntmps38
  go_wp2_with fail
  rw [← HW2.out]
  clear c0 c1 c2 c3 c4 f0 f1 f2 f4 hbn hbl hn hl hm HW2
  go_loopw [31] (fun i wr => ∃ k : Nat, k ≤ nQ ∧ i = .int .i64 k ∧ Below w2.heap.size w2 wr) (fun i _ => nQ - (intOf i).toNat)
  case atStart => exact ⟨0, Nat.zero_le _, rfl, Below.refl _ _⟩
  case round =>
    obtain ⟨k, hk, rfl, hbel⟩ := hrel
    by_cases hlt : k < nQ
    · have HRG : Hid (wr.rangeAt g (k * 48) (envC ⟨#[97]⟩ ⟨#[98]⟩ (-1)).toList) := fun j v hv => (hbel.cell (p := ⟨g, k * 48 + j, none⟩) (blk_lt HG2.out)).trans (HR2.out k hlt j v hv)
      have nr : NetB wr bn bmain bmem asd := by
        obtain ⟨cs1, hbn1⟩ := n2.blk
        exact n2.grown (hbel.block _ (blk_lt hbn1)) (hbel.block _ (blk_lt n2.mem))
      have na : NetB (wr.alloc (.cells (envC ⟨#[97]⟩ ⟨#[98]⟩ (-1)) 82)) bn bmain bmem asd := by
        obtain ⟨cs1, hbn1⟩ := nr.blk
        exact nr.grown (heap_alloc_lt _ _ _ (blk_lt hbn1)) (heap_alloc_lt _ _ _ (blk_lt nr.mem))
      have nb : NetB ((wr.alloc (.cells (envC ⟨#[97]⟩ ⟨#[98]⟩ (-1)) 82)).alloc (.cells (envC ⟨#[97]⟩ ⟨#[98]⟩ (-1)) 82)) bn bmain bmem asd := by
        obtain ⟨cs1, hbn1⟩ := na.blk
        exact na.grown (heap_alloc_lt _ _ _ (blk_lt hbn1)) (heap_alloc_lt _ _ _ (blk_lt na.mem))
      have belb : Below w2.heap.size w2 ((wr.alloc (.cells (envC ⟨#[97]⟩ ⟨#[98]⟩ (-1)) 82)).alloc (.cells (envC ⟨#[97]⟩ ⟨#[98]⟩ (-1)) 82)) := (hbel.alloc hbel.size _).alloc (by have := hbel.size; simp; omega) _
      go_wp2_with (first | refine wpList_load_mid (by rfl) 82 _ (by rfl) g (k * 48) (by rfl) (envC ⟨#[97]⟩ ⟨#[98]⟩ (-1)).toList _ HRG.out Try.underlying82 (by rfl) (by rw [size82, Array.length_toList, envC_size]) ?_ | (refine wpList_store_row (by rfl) 82 _ _ (by rfl) wr.heap.size (envC ⟨#[97]⟩ ⟨#[98]⟩ (-1)) (by rfl) (by rfl) 82 _ (heap_alloc_new wr _) (by rw [size82, envC_size]) (by rw [envC_size]; rfl) (envC_all _ _ _) ?_; rw [alloc_setRow]) | refine wpList_load_mid (by rfl) 82 _ (by rfl) wr.heap.size 0 (by rfl) (envC ⟨#[97]⟩ ⟨#[98]⟩ (-1)).toList _ (range_new wr _) Try.underlying82 (by rfl) (by rw [size82, Array.length_toList, envC_size]) ?_)
      refine (hand_any bn bmem ⟨#[98]⟩ (envC ⟨#[97]⟩ ⟨#[98]⟩ (-1)) _ (envC_1 _ _ _) (envC_47 _ _ _) na.c0 na.mem).mono ?_
      rintro e w5 ⟨rfl, nq', hw5⟩
      have n5 : NetB w5 bn bmain bmem asd := by rw [hw5]; exact nb
      have bel5 : Below w2.heap.size w2 w5 := by rw [hw5]; exact ⟨belb.os, belb.tape, belb.output, belb.size, belb.block⟩
      clear hw5
      go_wp2_with fail
      refine (handRefused_any bn _ n5.c1 (n5.fr 1)).mono ?_; rintro e w' ⟨rfl, hw'⟩; rw [hw']; clear hw' w'
      go_wp2_with fail
      go_roundw
      case rel => exact ⟨k + 1, by omega, by go_num, bel5⟩
      case measure => simp [intOf]; omega
    · clear HR2
      obtain ⟨arr, hasz, hapre, hclr0⟩ := run_clear82 (w := wr) (g := g) (o := 0) (n := nQ) (cap := cq) (below_keep hbel HG2.out) hnq.1 (by omega) 0
      obtain ⟨w3, hw3⟩ : ∃ x, x = (wr.setRow g arr).setCell ⟨bl, 1, none⟩ (.slice (some ⟨g, 0, none⟩) nQ cq) := ⟨_, rfl⟩
      have gr := below_keep hbel HG2.out
      have hl2 := l2.blk
      obtain ⟨csn, hbn2⟩ := n2.blk
      have ngl : bl ≠ g := obj_ne hl2 HG2.out (by simp)
      have lr : LaneB (wr.setRow g arr) bl bm (.slice aS 0 cs) (.slice aS ns cs) (h + 1) p := by
        unfold LaneB; rw [setRow_far _ ngl]; exact below_keep hbel hl2
      have l3 : LaneB w3 bl bm (.slice aS 0 cs) (.slice (some ⟨g, 0, none⟩) nQ cq) (h + 1) p := by rw [hw3]; exact lr.setSpare _
      have far3 : ∀ (b : Nat) (o : Obj), w2.heap[b]? = some o → b ≠ bl → b ≠ g → w3.heap[b]? = some o := fun b o ho h1 h2 => by rw [hw3, setCell_far _ h1, setRow_far _ h2]; exact below_keep hbel ho
      have k3 : Keep w2 w3 := fun b c e hb he => far3 b _ hb (obj_ne hb hl2 (by rcases he with rfl | rfl <;> simp)) (obj_ne hb HG2.out (by rcases he with rfl | rfl <;> simp))
      have n3 : NetB w3 bn bmain bmem asd := n2.grown ((far3 bn _ hbn2 (obj_ne hbn2 hl2 (by simp)) (obj_ne hbn2 HG2.out (by simp))).trans hbn2.symm) ((far3 bmem _ n2.mem (obj_ne n2.mem hl2 (by simp)) (obj_ne n2.mem HG2.out (by simp))).trans n2.mem.symm)
      have b3 : Betw B C w w3 := by rw [hw3]; exact ((b2.trans (Betw.of_below hbel hBs)).setRow hgC _).setCell hB.2.1 _
      have m3 : w3.heap[bm]? = some (.map es ck) := far3 bm _ m2 bml (obj_ne m2 HG2.out (by simp))
      have d2 := l3.c2; have d3 := l3.c3; have d4 := l3.c4
      have e1 := lr.c1
      have ef1 := lr.fr 1
      have HT3 : Hid (TGE w3 B h N (fun k => look k es.toList) G D) := HT2.out.keep k3
      have HTM : Hid (∀ j t, 0 ≤ j → ts[j]? = some t → (B ≤ t ∧ C t) ∧ TmB w3 t (D t)) := fun j t hj ht => ⟨(HTM2.out j t hj ht).1, (HTM2.out j t hj ht).2.keep k3⟩
      have HROW : Hid (w3.ownsRow B 104 1 (.slice av ts.length cv) ts.length (ts.map ptr)) := ownsRow_keep HROW2.out k3
      have hlook : ∀ nq, (Instr.lookup 75 (.map (some bm)) (.int .i64 (h + 1)) false).run Try.prog (w3.drewN nq) = .ok (.slice av ts.length cv) (w3.drewN nq) := fun nq => (run_look (w := w3.drewN nq) (es := es) (clock := ck) m3 hik (h + 1)).trans (by rw [HV.out])
      have hlook0 : (Instr.lookup 75 (.map (some bm)) (.int .i64 (h + 1)) false).run Try.prog w3.drew = .ok (.slice av ts.length cv) w3.drew := (run_look (w := w3.drew) (es := es) (clock := ck) m3 hik (h + 1)).trans (by rw [HV.out])
      have HW3 : Hid _ := hw3
      clear HT2 HTM2 HROW2 HV HG2 gr hl2 hbn2 far3 k3 l2 n2 b2 m2 hw3 lr
      go_wp2_with fail
      rw [← HW3.out]
      clear hclr0 e1 ef1
      go_quiet (fail)
      obtain ⟨es', hdel, hik', hlk'⟩ := run_del (w := (w3.drewN nq).drew) (es := es) (clock := ck) m3 hik (h + 1) 0
      have LI0 : Hid (LI B C bn bmain bmem bl bm asd (.slice aS 0 cs) (.slice (some ⟨g, 0, none⟩) nQ cq) (h + 1) p N es' ck G D ts (.slice av ts.length cv) w (setBlock (w3.drewN nq).drew bm (.map es' ck)) 0) := by
        have mm : (w3.drewN nq).drew.heap[bm]? = some (.map es ck) := m3
        have kk : Keep w3 (setBlock (w3.drewN nq).drew bm (.map es' ck)) := Keep.setBlock mm _
        have ffar : ∀ b, b ≠ bm → (setBlock (w3.drewN nq).drew bm (.map es' ck)).heap[b]? = w3.heap[b]? := fun b hb => setBlock_far _ hb
        have hl3 := l3.blk
        refine ⟨n3.grown (ffar bn ?_) (ffar bmem (Ne.symm hmm)), ?_, setBlock_near mm _, ?_, ownsRow_keep HROW.out kk, fun j t hj hjt => ⟨(HTM.out j t hj hjt).1, (HTM.out j t hj hjt).2.keep kk⟩, ?_⟩
        · obtain ⟨cs1, hbn1⟩ := n3.blk
          exact obj_ne hbn1 m3 (by simp)
        · have e0 : p - ((live D (ts.take 0) : Nat) : Int) = p := by simp [live]
          rw [e0]
          exact l3.grown (ffar bl (Ne.symm bml))
        · have t4 := HT3.out.keep kk
          refine ⟨fun k hk v hv => t4.row k (by omega) v ?_, fun k hk hv => t4.nil k (by omega) ?_, fun k k' v v' g hk hk' hv hv' => t4.apart k k' v v' g (by omega) (by omega) ?_ ?_, fun k hk => t4.nodup k (by omega), fun k k' t hk hk' => t4.own k k' t (by omega) (by omega), fun k t hk => t4.tm k t (by omega), fun k hk => t4.len k (by omega)⟩
          · rw [← hlk' k (by omega)]; exact hv
          · rw [← hlk' k (by omega)]; exact hv
          · rw [← hlk' k (by omega)]; exact hv
          · rw [← hlk' k' (by omega)]; exact hv'
        · have b4 : Betw B C w (w3.drewN nq).drew := ⟨⟨b3.below.os, b3.below.tape, b3.below.output, b3.below.size, b3.below.block⟩, b3.above⟩
          exact b4.setBlock hB.2.2 _
      have e2 : (w3.drewN nq).cell? ⟨bl, 2, none⟩ = some (.int .i64 (h + 1)) := d2
      have e3 : (w3.drewN nq).cell? ⟨bl, 3, none⟩ = some (.map (some bm)) := d3
      clear hlook hlook0
      generalize w3.drewN nq = w4 at *
      go_wp2_with fail
      go_region
      clear hdel
      generalize setBlock w4.drew bm (.map es' ck) = w5 at *
      go_wp2_with fail
      clear e2 e3 d2 d3 d4 m3 b3 n3 l3 HT3 HTM HROW hlk' hik
      go_loopw [65] (fun i wr => ∃ k : Nat, k ≤ ts.length ∧ i = .int .i64 k ∧ LI B C bn bmain bmem bl bm asd (.slice aS 0 cs) (.slice (some ⟨g, 0, none⟩) nQ cq) (h + 1) p N es' ck G D ts (.slice av ts.length cv) w wr k) (fun i _ => ts.length - (intOf i).toNat)
      case atStart => exact ⟨0, Nat.zero_le _, rfl, LI0.out⟩
      case round =>
        obtain ⟨k, hk, rfl, hI⟩ := hrel
        by_cases hlt : k < ts.length
        · obtain ⟨t, htk⟩ : ∃ t, ts[k]? = some t := ⟨ts[k], List.getElem?_eq_getElem hlt⟩
          have hlive : live D (ts.take k) ≤ 100000 := by
            unfold live
            have := List.length_filter_le (fun t => !D t) (ts.take k)
            have := List.length_take_le k ts
            omega
          rcases hI.row.2 with ⟨_, h0⟩ | ⟨g, cap, cur, hvv, hg, hgg, hle, _, hsz, htake⟩
          · omega
          · obtain ⟨rfl, rfl⟩ : av = some ⟨g, 0, none⟩ ∧ cv = cap := by simpa using hvv
            have hcell : wr.cell? ⟨g, k, none⟩ = some (.pointer (some ⟨t, 0, none⟩)) := by
              rw [blk_cell hgg]
              have e1 : cur.toList[k]? = (List.take (ts.length * 1) cur.toList)[k]? := by rw [List.getElem?_take, if_pos (by omega)]
              rw [← Array.getElem?_toList, e1, htake, List.getElem?_map, htk]
              rfl
            obtain ⟨hBt, f, l, hf, hh⟩ := hI.tms k t (Nat.le_refl _) htk
            have t0 : wr.cell? ⟨t, 0, none⟩ = some f := by rw [blk_cell hh]; rfl
            have t1 : wr.cell? ⟨t, 1, none⟩ = some (.int .i64 (-1)) := by rw [blk_cell hh]; rfl
            have t3 : wr.cell? ⟨t, 3, none⟩ = some (.bool (D t)) := by rw [blk_cell hh]; rfl
            have g3 : wr.frozen? ⟨t, 3, none⟩ = false := blk_frozen hh
            have c4 := hI.lane.c4
            have f4 := hI.lane.fr 4
            obtain ⟨cc, n262⟩ := hI.net.c262
            have fn262 := hI.net.fr 262
            have n1 := hI.net.c1
            have fn1 := hI.net.fr 1
            have HI : Hid _ := hI
            have HTK : Hid _ := htk
            clear hI htk hgg hh hvv htake
            cases hd : D t
            · rw [hd] at t3
              have hx := HI.out.run ⟨hB.1, hB.2.1⟩ HTK.out hd HND.out (hdis.out t (List.mem_of_getElem? HTK.out))
              obtain ⟨wx, hwx⟩ : ∃ x, x = ((wr.setCell ⟨t, 3, none⟩ (.bool true)).setCell ⟨bl, 4, none⟩ (.int .i64 (p - live D (ts.take k) - 1))).setCell ⟨bn, 262, none⟩ (.int .i64 (-1)) := ⟨_, rfl⟩
              rw [← hwx] at hx
              have x1 : wx.cell? ⟨t, 1, none⟩ = some (.int .i64 (-1)) := by rw [hwx]; go_simp
              have x0 : wx.cell? ⟨t, 0, none⟩ = some f := by rw [hwx]; go_simp
              have x262 : wx.cell? ⟨bn, 262, none⟩ = some (.int .i64 (-1)) := by rw [hwx]; go_simp
              have xf262 := hx.net.fr 262
              have y1 := hx.net.c1
              have yf1 := hx.net.fr 1
              have HX : Hid _ := hx
              have HWX : Hid _ := hwx
              clear hd hx hwx
              rcases hf with rfl | rfl
              · go_wp2_with fail
                rw [← HWX.out]
                refine (f48_any _).mono ?_; rintro e w' ⟨rfl, hw'⟩; rw [hw']; clear hw' w'
                go_wp2_with fail
                rw [setCell_same x262]
                refine (done_any _ _).mono ?_; rintro e w' ⟨rfl, hw'⟩; rw [hw']; clear hw' w'
                go_wp2_with fail
                refine (handRefused_any bn _ y1 yf1).mono ?_; rintro e w' ⟨rfl, hw'⟩; rw [hw']; clear hw' w'
                go_wp2_with fail
                go_roundw
                case rel => exact ⟨k + 1, by omega, by go_num, HX.out⟩
                case measure => simp [intOf]; omega
              · go_wp2_with fail
                rw [← HWX.out]
                refine (f49_any _).mono ?_; rintro e w' ⟨rfl, hw'⟩; rw [hw']; clear hw' w'
                go_wp2_with fail
                rw [setCell_same x262]
                refine (done_any _ _).mono ?_; rintro e w' ⟨rfl, hw'⟩; rw [hw']; clear hw' w'
                go_wp2_with fail
                refine (handRefused_any bn _ y1 yf1).mono ?_; rintro e w' ⟨rfl, hw'⟩; rw [hw']; clear hw' w'
                go_wp2_with fail
                go_roundw
                case rel => exact ⟨k + 1, by omega, by go_num, HX.out⟩
                case measure => simp [intOf]; omega
            · rw [hd] at t3
              have HD : Hid _ := hd
              clear hd
              go_wp2_with fail
              go_roundw
              case rel => exact ⟨k + 1, by omega, by go_num, HI.out.skip HTK.out HD.out⟩
              case measure => simp [intOf]; omega
        · have e : k = ts.length := by omega
          subst e
          go_wp2_with fail
          go_end0
          exact ⟨rfl, es', ck, hik', hI⟩

theorem advanceq_any {B : Nat} {C : Nat → Prop} {bn bmain bmem bl bm N : Nat} {asd : Value} {h p : Int} {g nQ cq : Nat} {aS : Option Addr} {ns cs : Nat} {L : Int → Nat} (w : World)
    (hB : (B ≤ bn ∧ C bn) ∧ (B ≤ bl ∧ C bl) ∧ (B ≤ bm ∧ C bm)) (hgC : B ≤ g ∧ C g) (hmm : bm ≠ bmem) (hn : NetB w bn bmain bmem asd) (hl : LaneB w bl bm (.slice (some ⟨g, 0, none⟩) nQ cq) (.slice aS ns cs) h p)
    (hq : QB w B (.slice (some ⟨g, 0, none⟩) nQ cq) (List.replicate nQ (-1))) (hnq : 0 < nQ ∧ nQ ≤ 4096) (ht : TGC w B C bm h N L)
    (hh : 0 ≤ h ∧ h ≤ 4294967296) (hp : 0 ≤ p ∧ p ≤ 100000) (hN : N ≤ 100000) :
    Calls Try.prog 38 #[.pointer (some ⟨bn, 0, none⟩), .pointer (some ⟨bl, 0, none⟩)] w fun e w' => e = .returned (.tuple #[]) ∧ NetB w' bn bmain bmem asd ∧
      LaneB w' bl bm (.slice aS 0 cs) (.slice (some ⟨g, 0, none⟩) nQ cq) (h + 1) (p - L (h + 1)) ∧ TGC w' B C bm (h + 1) N L ∧ Betw B C w w' := by
  obtain ⟨es, ck, G, D, h1, h2, h3, h4, h5⟩ := ht
  obtain ⟨av, cv, hv⟩ : ∃ av cv, (look (h + 1) es.toList).getD (.slice none 0 0) = .slice av (G (h + 1)).length cv := by
    rcases (h3.at (h + 1) (by omega)).2 with ⟨e1, e2⟩ | ⟨g, cap, cur, e1, _⟩
    · exact ⟨none, 0, by rw [e1, e2]⟩
    · exact ⟨_, _, e1⟩
  refine (advanceq_core B C bn bmain bmem bl bm N asd h p g nQ cq aS ns cs av cv es ck G D w hB hgC hn hl hq hnq h1 h2 h3 h5 hv hmm hh hp hN).mono ?_
  rintro e w' ⟨rfl, es', ck', hik', hI⟩
  have e1 : ((live D ((G (h + 1)).take (G (h + 1)).length) : Nat) : Int) = L (h + 1) := by rw [List.take_length, h4 (h + 1) (by omega)]
  have hl' := hI.lane
  rw [e1] at hl'
  exact ⟨rfl, hI.net, hl', ⟨es', ck', G, D, hI.map, hik', hI.tge, fun k hk => h4 k (by omega), fun k t hk => h5 k t (by omega)⟩, hI.bel⟩
end Go.Proofs.Qxb6612833a

/- The timers behind a lane's map: which lie at which key, and how many of them are live; how that is carried. -/
import Derived.Test.Qxb6612833aSmall
namespace Go.Proofs.Qxb6612833a
open Go.RowKit
open Go.ChangeMaps (setBlock)

def ptr (t : Nat) : Value := .pointer (some ⟨t, 0, none⟩)

/-- F: what the map holds at a key; G: the blocks of the timers there; D: is a timer done? Only keys above 'lo' are spoken of. -/
structure TGE (w : World) (B : Nat) (lo : Int) (N : Nat) (F : Int → Option Value) (G : Int → List Nat) (D : Nat → Bool) : Prop where
  row : ∀ k, lo < k → ∀ v, F k = some v → w.ownsRow B 104 1 v (G k).length ((G k).map ptr)
  nil : ∀ k, lo < k → F k = none → G k = []
  apart : ∀ k k' v v' g, lo < k → lo < k' → F k = some v → F k' = some v' → v.ownBlock = some g → v'.ownBlock = some g → k = k'
  nodup : ∀ k, lo < k → (G k).Nodup
  own : ∀ k k' t, lo < k → lo < k' → t ∈ G k → t ∈ G k' → k = k'
  tm : ∀ k t, lo < k → t ∈ G k → B ≤ t ∧ TmB w t (D t)
  len : ∀ k, lo < k → (G k).length ≤ N

def live (D : Nat → Bool) (l : List Nat) : Nat := (l.filter fun t => !D t).length

/-- The timers' map at block bm: L k of the timers at key k are live. -/
def TG (w : World) (B bm : Nat) (lo : Int) (N : Nat) (L : Int → Nat) : Prop :=
  ∃ es clock G D, w.heap[bm]? = some (.map es clock) ∧ IntKeys es.toList ∧ TGE w B lo N (fun k => look k es.toList) G D ∧ ∀ k, lo < k → L k = live D (G k)

/-- Rows of timers and timers are as they were. -/
def Keep (w w' : World) : Prop := ∀ (b : Nat) (c : Array Value) (e : TypeId), w.heap[b]? = some (.cells c e (0, 0)) → e = 104 ∨ e = 106 → w'.heap[b]? = some (.cells c e (0, 0))

theorem Keep.refl (w : World) : Keep w w := fun _ _ _ h _ => h
theorem Keep.trans {a b c : World} (h : Keep a b) (h' : Keep b c) : Keep a c := fun _ _ _ x e => h' _ _ _ (h _ _ _ x e) e
theorem Keep.drew {a b : World} (h : Keep a b) : Keep a b.drew := h
theorem Keep.alloc (w : World) (o : Obj) : Keep w (w.alloc o) := fun b c e h _ => by rw [heap_alloc_lt _ _ _ (blk_lt h)]; exact h
theorem Keep.setCell {w : World} {b o : Nat} {c : Array Value} {e : TypeId} (hb : w.heap[b]? = some (.cells c e (0, 0))) (he : e ≠ 104 ∧ e ≠ 106) (v : Value) : Keep w (w.setCell ⟨b, o, none⟩ v) := fun b' c' e' h hh => by
  rw [setCell_far]
  · exact h
  · intro e1
    subst e1
    rw [hb] at h
    cases h
    rcases hh with rfl | rfl
    · exact he.1 rfl
    · exact he.2 rfl
theorem Keep.setBlock {w : World} {b : Nat} {es : Array MapEntry} {ck : Nat} (hb : w.heap[b]? = some (.map es ck)) (o : Obj) : Keep w (setBlock w b o) := fun b' c' e' h _ => by
  rw [setBlock_far]
  · exact h
  · intro e1
    subst e1
    rw [hb] at h
    cases h

theorem ownsRow_keep {w w' : World} {B : Nat} {v : Value} {n : Nat} {xs : List Value} (h : w.ownsRow B 104 1 v n xs) (hk : Keep w w') : w'.ownsRow B 104 1 v n xs := by
  obtain ⟨h1, h2⟩ := h
  refine ⟨h1, ?_⟩
  rcases h2 with h2 | ⟨g, cap, cur, hv, hg, hh, r⟩
  · exact .inl h2
  · exact .inr ⟨g, cap, cur, hv, hg, hk _ _ _ hh (.inl rfl), r⟩

theorem TmB.keep {w w' : World} {t : Nat} {d : Bool} (h : TmB w t d) (hk : Keep w w') : TmB w' t d := by
  obtain ⟨f, l, hf, hh⟩ := h
  exact ⟨f, l, hf, hk _ _ _ hh (.inr rfl)⟩

theorem TGE.keep {w w' : World} {B : Nat} {lo : Int} {N : Nat} {F : Int → Option Value} {G : Int → List Nat} {D : Nat → Bool} (h : TGE w B lo N F G D) (hk : Keep w w') : TGE w' B lo N F G D :=
  ⟨fun k hlo v hv => ownsRow_keep (h.row k hlo v hv) hk, h.nil, h.apart, h.nodup, h.own, fun k t hlo ht => ⟨(h.tm k t hlo ht).1, (h.tm k t hlo ht).2.keep hk⟩, h.len⟩

theorem TG.keep {w w' : World} {B bm : Nat} {lo : Int} {N : Nat} {L : Int → Nat} (h : TG w B bm lo N L) (hk : Keep w w') (hm : w'.heap[bm]? = w.heap[bm]?) : TG w' B bm lo N L := by
  obtain ⟨es, ck, G, D, h1, h2, h3, h4⟩ := h
  exact ⟨es, ck, G, D, hm.trans h1, h2, h3.keep hk, h4⟩

theorem TG.start {w : World} {B bm : Nat} (lo : Int) (ck : Nat) (h : w.heap[bm]? = some (.map #[] ck)) : TG w B bm lo 0 (fun _ => 0) :=
  ⟨#[], ck, fun _ => [], fun _ => true, h, fun e he => by simp at he, ⟨fun k _ v hv => by simp [look] at hv, fun _ _ _ => rfl, fun k k' v v' g _ _ hv => by simp [look] at hv, fun _ _ => List.nodup_nil, fun k k' t _ _ ht => by simp at ht, fun k t _ ht => by simp at ht, fun _ _ => Nat.le_refl _⟩, fun _ _ => rfl⟩

theorem TG.above {w : World} {B bm : Nat} {lo lo' : Int} {N : Nat} {L : Int → Nat} (h : TG w B bm lo N L) (hl : lo ≤ lo') : TG w B bm lo' N L := by
  obtain ⟨es, ck, G, D, h1, h2, h3, h4⟩ := h
  exact ⟨es, ck, G, D, h1, h2, ⟨fun k hk => h3.row k (by omega), fun k hk => h3.nil k (by omega), fun k k' v v' g hk hk' => h3.apart k k' v v' g (by omega) (by omega), fun k hk => h3.nodup k (by omega), fun k k' t hk hk' => h3.own k k' t (by omega) (by omega), fun k t hk => h3.tm k t (by omega), fun k hk => h3.len k (by omega)⟩, fun k hk => h4 k (by omega)⟩

/-- ONE TIMER MORE AT A KEY: the row at that key has been appended to (in place, or in a new block), the map stores it. 'w': ahead of it all; 'w1': behind the append; t: the new timer's block. -/
theorem TGE.push {w w1 : World} {B : Nat} {lo : Int} {N : Nat} {F F' : Int → Option Value} {G : Int → List Nat} {D : Nat → Bool} (h : TGE w B lo N F G D) (k0 : Int) (hk0 : lo < k0)
    (t : Nat) (d : Bool) (ht : ∀ k, lo < k → t ∉ G k) (hB : B ≤ t) (hT : TmB w1 t d) (v : Value) (hv : v = (F k0).getD (.slice none 0 0)) (v' : Value) (hF : ∀ k, F' k = if k = k0 then some v' else F k)
    (hown : w1.ownsRow B 104 1 v' ((G k0).length + 1) ((G k0).map ptr ++ [ptr t])) (hg : w.grownBy w1 v.ownBlock) (hv' : ∀ g, v'.ownBlock = some g → v.ownBlock = some g ∨ w.heap.size ≤ g) (hTm : ∀ k u, lo < k → u ∈ G k → ∀ g, v.ownBlock = some g → u ≠ g) :
    TGE w1 B lo (N + 1) F' (fun k => if k = k0 then G k0 ++ [t] else G k) (fun u => if u = t then d else D u) := by
  refine ⟨?_, ?_, ?_, ?_, ?_, ?_, ?_⟩
  · intro k hk u hu
    by_cases e : k = k0
    · subst e
      rw [hF, if_pos rfl] at hu
      cases hu
      simpa using hown
    · rw [hF, if_neg e] at hu
      simp only [if_neg e]
      refine (h.row k hk u hu).kept hg ?_
      cases hub : u.ownBlock with
      | none => exact .inl rfl
      | some g =>
        refine .inr fun hc => ?_
        cases hfk : F k0 with
        | none => rw [hv, hfk] at hc; simp [Value.ownBlock] at hc
        | some x =>
          rw [hv, hfk] at hc
          exact e (h.apart k k0 u x g hk hk0 hu hfk hub hc.symm)
  · intro k hk hn
    by_cases e : k = k0
    · subst e; rw [hF, if_pos rfl] at hn; cases hn
    · rw [hF, if_neg e] at hn
      simp only [if_neg e]
      exact h.nil k hk hn
  · have main : ∀ k u g, lo < k → k ≠ k0 → F k = some u → u.ownBlock = some g → v'.ownBlock = some g → False := by
      intro k u g hk e hu hub hvb
      have hlt := ((h.row k hk u hu).lt g hub).2
      rcases hv' g hvb with h1 | h1
      · cases hfk : F k0 with
        | none => rw [hv, hfk] at h1; simp [Value.ownBlock] at h1
        | some x =>
          rw [hv, hfk] at h1
          exact e (h.apart k k0 u x g hk hk0 hu hfk hub h1)
      · omega
    intro k k' u u' g hk hk' hu hu' hub hub'
    by_cases e : k = k0
    · by_cases e' : k' = k0
      · rw [e, e']
      · rw [hF, if_pos e] at hu
        rw [hF, if_neg e'] at hu'
        cases hu
        exact (main k' u' g hk' e' hu' hub' hub).elim
    · rw [hF, if_neg e] at hu
      by_cases e' : k' = k0
      · rw [hF, if_pos e'] at hu'
        cases hu'
        exact (main k u g hk e hu hub hub').elim
      · rw [hF, if_neg e'] at hu'
        exact h.apart k k' u u' g hk hk' hu hu' hub hub'
  · intro k hk
    by_cases e : k = k0
    · simp only [if_pos e]
      rw [List.nodup_append]
      refine ⟨h.nodup k0 hk0, by simp, ?_⟩
      intro a ha b hb hab
      simp at hb
      subst hb
      subst hab
      exact ht k0 hk0 ha
    · simp only [if_neg e]
      exact h.nodup k hk
  · intro k k' u hk hk' hu hu'
    by_cases e : k = k0
    · by_cases e' : k' = k0
      · rw [e, e']
      · simp only [if_pos e, if_neg e'] at hu hu'
        simp at hu
        rcases hu with hu | rfl
        · rw [e]; exact h.own k0 k' u hk0 hk' hu hu'
        · exact absurd hu' (ht k' hk')
    · by_cases e' : k' = k0
      · simp only [if_neg e, if_pos e'] at hu hu'
        simp at hu'
        rcases hu' with hu' | rfl
        · rw [e']; exact h.own k k0 u hk hk0 hu hu'
        · exact absurd hu (ht k hk)
      · simp only [if_neg e, if_neg e'] at hu hu'
        exact h.own k k' u hk hk' hu hu'
  · intro k u hk hu
    have old : ∀ k, lo < k → u ∈ G k → B ≤ u ∧ TmB w1 u (if u = t then d else D u) := by
      intro k hk hu
      have hne : u ≠ t := fun e => ht k hk (e ▸ hu)
      obtain ⟨hb, f, l, hf, hh⟩ := h.tm k u hk hu
      refine ⟨hb, f, l, hf, ?_⟩
      rw [if_neg hne, hg.block u (blk_lt hh) (fun e => hTm k u hk hu u e.symm rfl)]
      exact hh
    by_cases e : k = k0
    · simp only [if_pos e] at hu
      simp at hu
      rcases hu with hu | rfl
      · exact old k0 hk0 hu
      · simp only [if_true]; exact ⟨hB, hT⟩
    · simp only [if_neg e] at hu
      exact old k hk hu
  · intro k hk
    by_cases e : k = k0
    · simp only [if_pos e]
      have := h.len k0 hk0
      simp; omega
    · simp only [if_neg e]
      have := h.len k hk
      omega

theorem live_push {D : Nat → Bool} {l : List Nat} {t : Nat} {d : Bool} (ht : t ∉ l) : live (fun u => if u = t then d else D u) (l ++ [t]) = live D l + (if d then 0 else 1) := by
  unfold live
  rw [List.filter_append, List.length_append]
  have e1 : l.filter (fun u => !(if u = t then d else D u)) = l.filter (fun u => !D u) := by
    apply List.filter_congr
    intro u hu
    have : u ≠ t := fun e => ht (e ▸ hu)
    simp [this]
  rw [e1]
  cases d <;> simp
theorem live_far {D : Nat → Bool} {l : List Nat} {t : Nat} {d : Bool} (ht : t ∉ l) : live (fun u => if u = t then d else D u) l = live D l := by
  unfold live
  congr 1
  apply List.filter_congr
  intro u hu
  have : u ≠ t := fun e => ht (e ▸ hu)
  simp [this]
end Go.Proofs.Qxb6612833a

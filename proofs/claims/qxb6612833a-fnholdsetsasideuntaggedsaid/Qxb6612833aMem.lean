/- What lies in memory of a 'sim.Network' that the law made: the network's block, a lane's block, the timers behind the lane's map; and how it is carried. -/
import Derived.Test.Qxb6612833aMap
import Derived.Below
import Derived.Deep.AppendLies
namespace Go.Proofs.Qxb6612833a
open Go.RowKit
open Go.ChangeMaps (setBlock)

theorem setCell_same {w : World} {a : Addr} {v : Value} (h : w.cell? a = some v) : w.setCell a v = w := by
  have hh : (w.setCell a v).heap = w.heap := by
    apply Array.ext_getElem?
    intro i
    simp only [World.setCell, Array.getElem?_modify]
    split
    · rename_i e
      subst e
      unfold World.cell? at h
      cases ho : w.heap[a.block]? with
      | none => simp
      | some o =>
        rw [ho] at h
        cases o <;> simp at h ⊢
        obtain ⟨h1, h2⟩ := h
        simp [h1]
        apply Array.ext_getElem?
        intro j
        rw [Array.getElem?_setIfInBounds]
        split
        · rename_i e
          subst e
          rw [h2]
          have : a.off < _ := (Array.getElem?_eq_some_iff.1 h2).1
          simp [this]
        · rfl
    · rfl
  have e : w.setCell a v = { w with heap := (w.setCell a v).heap } := rfl
  rw [e, hh]

theorem setBlock_same {w : World} {b : Nat} {o : Obj} (h : w.heap[b]? = some o) : setBlock w b o = w := by
  have hh : w.heap.setIfInBounds b o = w.heap := by
    apply Array.ext_getElem?
    intro j
    rw [Array.getElem?_setIfInBounds]
    split
    · rename_i e
      subst e
      rw [h]
      simp [(Array.getElem?_eq_some_iff.1 h).1]
    · rfl
  show { w with heap := _ } = w
  rw [hh]

theorem setCell_block {w : World} {b o : Nat} {c : Array Value} {e : TypeId} {fr : Nat × Nat} (h : w.heap[b]? = some (.cells c e fr)) (v : Value) : (w.setCell ⟨b, o, none⟩ v).heap[b]? = some (.cells (c.setIfInBounds o v) e fr) := by
  simp only [World.setCell, Array.getElem?_modify, if_pos, h]
  rfl

theorem setCell_far {w : World} {b o k : Nat} (v : Value) (h : k ≠ b) : (w.setCell ⟨b, o, none⟩ v).heap[k]? = w.heap[k]? := Below.heap_setCell _ _ _ _ h

theorem setBlock_near {w : World} {b : Nat} {o' : Obj} (h : w.heap[b]? = some o') (o : Obj) : (setBlock w b o).heap[b]? = some o := by
  simp [setBlock, (Array.getElem?_eq_some_iff.1 h).1]
theorem setBlock_far {w : World} {b k : Nat} (o : Obj) (h : k ≠ b) : (setBlock w b o).heap[k]? = w.heap[k]? := by
  simp [setBlock, Ne.symm h]

theorem blk_cell {w : World} {b o : Nat} {c : Array Value} {e : TypeId} {fr : Nat × Nat} (h : w.heap[b]? = some (.cells c e fr)) : w.cell? ⟨b, o, none⟩ = c[o]? := cell_of_row w b o c e fr h
theorem blk_frozen {w : World} {b o : Nat} {c : Array Value} {e : TypeId} (h : w.heap[b]? = some (.cells c e (0, 0))) : w.frozen? ⟨b, o, none⟩ = false := by
  simp [World.frozen?, h]
theorem blk_lt {w : World} {b : Nat} {o : Obj} (h : w.heap[b]? = some o) : b < w.heap.size := (Array.getElem?_eq_some_iff.1 h).1

/-- The network's block: 'members' an empty map, 'refused' nil, 'main' the lane bl, 'aside' as told; the cause is whatever. -/
def NetB (w : World) (bn bl bmem : Nat) (aside : Value) : Prop :=
  ∃ cs c, w.heap[bn]? = some (.cells cs 72 (0, 0)) ∧ cs.size = 263 ∧ cs[0]? = some (.map (some bmem)) ∧ cs[1]? = some (.slice none 0 0) ∧ cs[259]? = some (.pointer (some ⟨bl, 0, none⟩)) ∧
    cs[260]? = some aside ∧ cs[262]? = some (.int .i64 c) ∧ w.heap[bmem]? = some (.map #[] 0)

/-- A lane's block. -/
def LaneB (w : World) (bl bm : Nat) (q s : Value) (h p : Int) : Prop :=
  w.heap[bl]? = some (.cells #[q, s, .int .i64 h, .map (some bm), .int .i64 p] 77 (0, 0))

/-- A timer's block: done or not; it runs nothing, and bears no tag. -/
def TmB (w : World) (t : Nat) (d : Bool) : Prop :=
  ∃ f l, (f = .func (.func 48) #[] #[] ∨ f = .func (.func 49) #[] #[]) ∧ w.heap[t]? = some (.cells #[f, .int .i64 (-1), l, .bool d] 106 (0, 0))

end Go.Proofs.Qxb6612833a

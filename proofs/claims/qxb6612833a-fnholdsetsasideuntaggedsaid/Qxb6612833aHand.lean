/- The contract of 'hand' at an envelope without a tag; 'clear' of a slice of envelopes. -/
import Derived.Test.Qxb6612833aPlain
import Derived.Deep.MidRow
import Derived.BigQuiet
import Derived.Deep.QuietTactic
namespace Go.Proofs.Qxb6612833a
open Go.ChangeShapes Go.WideShapes Go.ChangeAt Go.RowKit

theorem run_member (w : World) (bmem : Nat) (s : ByteArray) (h : w.heap[bmem]? = some (.map #[] 0)) :
    (Instr.lookup 65 (.map (some bmem)) (.string s) false).run Try.prog w = .ok .nilIface w := by
  have hc := MapKept.run_checkKey (P := Try.prog) (w := w) (kt := 9) (d := .string) (k := .string s) Try.underlying9 trivial true 9999
  have hf := MapKept.run_findKey (P := Try.prog) (w := w) (kt := 9) (k := .string s) (l := []) (a := none) Try.underlying9 rfl
  simp [Instr.lookup, run_underlying Try.underlying65, MapKept.run_getObj_map h, hc, hf]

set_option maxRecDepth 100000 in
set_option maxHeartbeats 1600000 in
theorem hand_any (bn bmem : Nat) (s : ByteArray) (es : Array Value) (w : World) (e1 : es[1]? = some (.string s)) (e47 : es[47]? = some (.int .i64 (-1)))
    (c0 : w.cell? ⟨bn, 0, none⟩ = some (.map (some bmem))) (hm : w.heap[bmem]? = some (.map #[] 0)) :
    Calls Try.prog 50 #[.pointer (some ⟨bn, 0, none⟩), .agg es] w fun e w' => e = .returned (.tuple #[]) ∧ ∃ nq, w' = (w.alloc (.cells es 82)).drewN nq := by
  have lm := blk_lt hm
  have lk := World.block_lt_of_cell? w _ c0
  have hma : (w.alloc (.cells es 82)).heap[bmem]? = some (.map #[] 0) := by rw [heap_alloc_lt _ _ _ lm]; exact hm
  have hnew : (w.alloc (.cells es 82)).heap[w.heap.size]? = some (.cells es 82 (0, 0)) := heap_alloc_new w _
  have q1 : (w.alloc (.cells es 82)).cell? ⟨w.heap.size, 1, none⟩ = some (.string s) := by rw [blk_cell hnew]; exact e1
  have q47 : (w.alloc (.cells es 82)).cell? ⟨w.heap.size, 47, none⟩ = some (.int .i64 (-1)) := by rw [blk_cell hnew]; exact e47
  have q0 : (w.alloc (.cells es 82)).cell? ⟨bn, 0, none⟩ = some (.map (some bmem)) := (World.grownBy_alloc w _ none).cell c0 (by simp)
  have hl0 : (Instr.lookup 65 (.map (some bmem)) (.string s) false).run Try.prog (w.alloc (.cells es 82)).drew = .ok .nilIface (w.alloc (.cells es 82)).drew := run_member _ bmem s hma
  have hl1 : ∀ nq, (Instr.lookup 65 (.map (some bmem)) (.string s) false).run Try.prog ((w.alloc (.cells es 82)).drewN nq) = .ok .nilIface ((w.alloc (.cells es 82)).drewN nq) := fun nq => run_member _ bmem s hma
  obtain ⟨w1, hw1⟩ : ∃ x, x = w.alloc (.cells es 82) := ⟨_, rfl⟩
  rw [← hw1] at q1 q47 q0 hl0
  have hl1' : ∀ nq, (Instr.lookup 65 (.map (some bmem)) (.string s) false).run Try.prog (w1.drewN nq) = .ok .nilIface (w1.drewN nq) := by rw [hw1]; exact hl1
  have HW : Hid _ := hw1
  clear hl1 hma hnew hw1 c0 hm e1 e47
  go_enter Try.func50, Try.ntmps50
  go_wp2_with fail
  rw [← HW.out]
  go_quiet (fail)
  have z47 : (w1.drewN nq).cell? ⟨w.heap.size, 47, none⟩ = some (.int .i64 (-1)) := q47
  have HX : Hid (∃ nq', w1.drewN nq = (w.alloc (.cells es 82)).drewN nq') := ⟨nq, by rw [HW.out]⟩
  generalize w1.drewN nq = w2 at *
  go_wp2_with fail
  refine (done_any _ _).mono ?_; rintro e w' ⟨rfl, hw'⟩; rw [hw']; clear hw' w'
  go_wp2_with fail
  go_end0
  exact ⟨rfl, HX.out⟩

theorem run_clear82 {w : World} {g o n cap : Nat} {cur : Array Value} (hg : w.heap[g]? = some (.cells cur 82 (0, 0))) (hn : 0 < n) (hfit : o + n * 48 ≤ cur.size) (ty : TypeId) :
    ∃ arr : Array Value, arr.size = cur.size ∧ (∀ j, j < o → arr[j]? = cur[j]?) ∧ (Builtin.clear_ #[66] ty #[.slice (some ⟨g, o, none⟩) n cap]).run Try.prog w = .ok (.tuple #[]) (w.setRow g arr) := by
  have hl : (Builtin.zeroCells (envC ⟨#[]⟩ ⟨#[]⟩ 0) n).toList.length = n * 48 := by simp [Builtin.zeroCells, envC_size]
  have h1 : ∀ u ∈ (Builtin.zeroCells (envC ⟨#[]⟩ ⟨#[]⟩ 0) n).toList, u.oneCell' = true := by
    intro u hu
    simp only [Builtin.zeroCells, Array.toList_map, List.mem_map] at hu
    obtain ⟨i, _, rfl⟩ := hu
    have hlt : i % (envC ⟨#[]⟩ ⟨#[]⟩ 0).size < (envC ⟨#[]⟩ ⟨#[]⟩ 0).size := Nat.mod_lt _ (by rw [envC_size]; omega)
    rw [getElem!_pos (envC ⟨#[]⟩ ⟨#[]⟩ 0) _ hlt]
    exact envC_one ⟨#[]⟩ ⟨#[]⟩ 0 _ (by simp)
  have hrun := run_storeCells_at (P := Try.prog) g o 82 _ 0 cur w hg (by rw [hl]; omega) h1
  simp only [Nat.add_zero] at hrun
  refine ⟨(List.take o cur.toList ++ (Builtin.zeroCells (envC ⟨#[]⟩ ⟨#[]⟩ 0) n).toList ++ List.drop (o + (Builtin.zeroCells (envC ⟨#[]⟩ ⟨#[]⟩ 0) n).toList.length) cur.toList).toArray, ?_, ?_, ?_⟩
  · simp only [List.size_toArray, List.length_append, hl, List.length_take, List.length_drop, Array.length_toList]
    omega
  · intro j hj
    rw [List.getElem?_toArray, List.append_assoc, List.getElem?_append_left (by simp; omega), List.getElem?_take, if_pos (by omega)]
    simp
  · obtain ⟨m, rfl⟩ : ∃ m, n = m + 1 := ⟨n - 1, by omega⟩
    have hclr : (Builtin.clear_ #[66] ty #[.slice (some ⟨g, o, none⟩) (m + 1) cap]).run Try.prog w = ((storeCells ⟨g, o, none⟩ (Builtin.zeroCells (envC ⟨#[]⟩ ⟨#[]⟩ 0) (m + 1)).toList).run Try.prog w).andThen (fun _ w' => .ok (.tuple #[]) w') := by
      rw [← envC_arr]
      simp [Builtin.clear_, run_underlying Try.underlying66, Value.cells]
    rw [hclr, hrun]
    rfl
end Go.Proofs.Qxb6612833a

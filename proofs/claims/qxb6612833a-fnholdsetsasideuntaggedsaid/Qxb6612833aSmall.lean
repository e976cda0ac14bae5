/- Contracts of the small functions. -/
import Derived.Test.Qxb6612833aMem
import Derived.OpenShut
import Derived.WalkLawsBesides
import Derived.ChangeOld
namespace Go.Proofs.Qxb6612833a
open Go.ChangeShapes Go.WideShapes Go.ChangeAt Go.RowKit
set_option maxHeartbeats 400000 in
theorem newLane_any (w : World) :
    Calls Try.prog 47 #[] w fun e w' => e = .returned (.pointer (some ⟨w.heap.size + 1, 0, none⟩)) ∧ w' = (w.alloc (.map #[] 0)).alloc (.cells #[.slice none 0 0, .slice none 0 0, .int .i64 0, .map (some w.heap.size), .int .i64 0] 77) := by
  have hmm := @run_makeMap Try.prog
  go_enter Try.func47, Try.ntmps47
  go_wp2
  go_ret
  exact ⟨rfl, rfl⟩
set_option maxHeartbeats 400000 in
theorem f48_any (w : World) : Calls Try.prog 48 #[] w fun e w' => e = .returned (.tuple #[]) ∧ w' = w := by
  go_enter Try.func48, Try.ntmps48
  go_wp2
  go_end0
  exact ⟨rfl, rfl⟩
set_option maxHeartbeats 400000 in
theorem f49_any (w : World) : Calls Try.prog 49 #[] w fun e w' => e = .returned (.tuple #[]) ∧ w' = w := by
  go_enter Try.func49, Try.ntmps49
  go_wp2
  go_end0
  exact ⟨rfl, rfl⟩
set_option maxHeartbeats 400000 in
theorem f40_any (w : World) : Calls Try.prog 40 #[] w fun e w' => e = .returned (.tuple #[]) ∧ w' = w := by
  go_enter Try.func40, Try.ntmps40
  go_wp2
  go_end0
  exact ⟨rfl, rfl⟩
set_option maxHeartbeats 400000 in
theorem done_any (v : Value) (w : World) : Calls Try.prog 51 #[v, .int .i64 (-1)] w fun e w' => e = .returned (.tuple #[]) ∧ w' = w := by
  go_enter Try.func51, Try.ntmps51
  go_wp2
  go_end0
  exact ⟨rfl, rfl⟩
set_option maxHeartbeats 400000 in
theorem handRefused_any (bn : Nat) (w : World) (h0 : w.cell? ⟨bn, 1, none⟩ = some (.slice none 0 0)) (f0 : w.frozen? ⟨bn, 1, none⟩ = false) :
    Calls Try.prog 36 #[.pointer (some ⟨bn, 0, none⟩)] w fun e w' => e = .returned (.tuple #[]) ∧ w' = w := by
  go_enter Try.func36, Try.ntmps36
  go_wp2
  go_loop [2] (fun i => i = .int .i64 0) (fun i => 0)
  case atStart => rfl
  case round =>
    subst hrel
    go_wp2
    go_end0
    exact ⟨rfl, setCell_same h0⟩
set_option maxHeartbeats 400000 in
theorem busy_any (bl : Nat) (a : Option Addr) (n c : Nat) (p : Int) (w : World) (h0 : w.cell? ⟨bl, 0, none⟩ = some (.slice a n c)) (h2 : w.cell? ⟨bl, 4, none⟩ = some (.int .i64 p)) :
    Calls Try.prog 37 #[.pointer (some ⟨bl, 0, none⟩)] w fun e w' => e = .returned (.bool (decide (0 < n) || decide (0 < p))) ∧ w' = w := by
  by_cases hn : 0 < n
  · have h3 : (0 : Int) < (n : Int) := by omega
    have h4 : (decide (0 < n) || decide (0 < p)) = true := by simp [hn]
    rw [h4]
    go_enter Try.func37, Try.ntmps37
    go_wp2
    go_ret
    exact ⟨rfl, rfl⟩
  · have h3 : decide ((0 : Int) < (n : Int)) = false := decide_eq_false (by omega)
    have h4 : (decide (0 < n) || decide (0 < p)) = decide (0 < p) := by simp [hn]
    rw [h4]
    go_enter Try.func37, Try.ntmps37
    go_wp2
    go_ret
    exact ⟨rfl, rfl⟩
theorem zc72_1 : Try.zeroCells72[1]'(by simp) = .slice none 0 0 := by kernel_rfl
theorem zc72_260 : Try.zeroCells72[260]'(by simp) = .pointer none := by kernel_rfl

theorem heap_alloc_at (w : World) (o : Obj) (k : Nat) (h : k = w.heap.size) : (w.alloc o).heap[k]? = some o := by
  subst h; exact heap_alloc_new w o
theorem heap_alloc_lt (w : World) (o : Obj) (k : Nat) (h : k < w.heap.size) : (w.alloc o).heap[k]? = w.heap[k]? := Below.heap_alloc w o k h

set_option maxHeartbeats 400000 in
/-- 'NewNetwork()': four new blocks, the members' map, the timers' map, the lane, the network. -/
theorem newNet_any (w : World) :
    Calls Try.prog 31 #[] w fun e w' => e = .returned (.pointer (some ⟨w.heap.size + 3, 0, none⟩)) ∧ NetB w' (w.heap.size + 3) (w.heap.size + 2) w.heap.size (.pointer none) ∧
      LaneB w' (w.heap.size + 2) (w.heap.size + 1) (.slice none 0 0) (.slice none 0 0) 0 0 ∧ w'.heap[w.heap.size + 1]? = some (.map #[] 0) ∧ Below w.heap.size w w' ∧ w'.heap.size = w.heap.size + 4 := by
  have hmm := @run_makeMap Try.prog
  go_enter Try.func31, Try.ntmps31
  go_wp2_with (go_at_call 47; refine (newLane_any _).mono ?_; rintro e w' ⟨rfl, rfl⟩)
  go_ret
  refine ⟨rfl, ⟨_, -1, heap_alloc_at _ _ _ (by simp), by simp, ?_, ?_, ?_, ?_, ?_, ?_⟩, ?_, ?_, ?_, by simp⟩
  · simp
  · simp [zc72_1]
  · simp
  · simp [zc72_260]
  · simp
  · rw [heap_alloc_lt _ _ _ (by simp; omega), heap_alloc_lt _ _ _ (by simp; omega), heap_alloc_lt _ _ _ (by simp)]
    exact heap_alloc_new w _
  · unfold LaneB
    rw [heap_alloc_lt _ _ _ (by simp)]
    exact heap_alloc_at _ _ _ (by simp)
  · rw [heap_alloc_lt _ _ _ (by simp), heap_alloc_lt _ _ _ (by simp)]
    exact heap_alloc_at _ _ _ (by simp)
  · exact ((((Below.refl _ _).alloc (Nat.le_refl _) _).alloc (by simp) _).alloc (by simp; omega) _).alloc (by simp; omega) _

theorem run_fail (w : World) (bmem : Nat) (s : ByteArray) (ty : TypeId) (h : w.heap[bmem]? = some (.map #[] 0)) :
    (Builtin.delete_ #[65, 9] ty #[.map (some bmem), .string s]).run Try.prog w = .ok (.tuple #[]) w := by
  have hc := MapKept.run_checkKey (P := Try.prog) (w := w) (kt := 9) (d := .string) (k := .string s) Try.underlying9 trivial true 9999
  have hf := MapKept.run_findKey (P := Try.prog) (w := w) (kt := 9) (k := .string s) (l := []) (a := none) Try.underlying9 rfl
  have e := setBlock_same h
  simp only [ChangeMaps.setBlock] at e
  simp [Builtin.delete_, run_underlying Try.underlying65, MapKept.run_getObj_map h, hc, hf, MapKept.run_setObj_map _ h, e]

set_option maxHeartbeats 400000 in
theorem fail_any (bn bmem : Nat) (s : ByteArray) (w : World) (h0 : w.cell? ⟨bn, 0, none⟩ = some (.map (some bmem))) (hm : w.heap[bmem]? = some (.map #[] 0)) :
    Calls Try.prog 32 #[.pointer (some ⟨bn, 0, none⟩), .string s] w fun e w' => e = .returned (.tuple #[]) ∧ w' = w := by
  have hr := fun ty => run_fail w bmem s ty hm
  go_enter Try.func32, Try.ntmps32
  go_wp2
  go_end0
  exact ⟨rfl, rfl⟩
end Go.Proofs.Qxb6612833a

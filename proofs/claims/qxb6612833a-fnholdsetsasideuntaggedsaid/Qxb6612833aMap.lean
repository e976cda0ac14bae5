/- The runs of the map operations at 'map[int][]*sim.timer' (type 75) on a map block that is known: by the entries' list. -/
import Derived.Test.Qxb6612833aRows
import Derived.WalkKit
import Derived.ProofKit
import Derived.MapKept
import Derived.ChangeMaps5
namespace Go.Proofs.Qxb6612833a
open Go.MapKept
open Go.ChangeMaps (setBlock)

def keyIs (k : Int) (v : Value) : Bool := match v with
  | .int .i64 a => a == k
  | _ => false

def look (k : Int) (l : List MapEntry) : Option Value := (l.find? fun e => keyIs k e.key).map (·.val)

def IntKeys (l : List MapEntry) : Prop := ∀ e ∈ l, IsKey (.int .i64) e.key

theorem keyIs_iff {k : Int} {v : Value} : keyIs k v = true ↔ v = .int .i64 k := by
  unfold keyIs
  split
  · simp
  · rename_i h
    constructor
    · intro h'; cases h'
    · intro h'; subst h'; exact absurd rfl (h k)

theorem find_spec (k : Int) (l : List MapEntry) (h : IntKeys l) :
    (Instr.findNow (.int .i64) (.int .i64 k) l 0 = some none ∧ look k l = none) ∨
    ∃ j e, Instr.findNow (.int .i64) (.int .i64 k) l 0 = some (some (j, e.val)) ∧ l[j]? = some e ∧ e.key = .int .i64 k ∧ look k l = some e.val ∧ (∀ i x, i < j → l[i]? = some x → keyIs k x.key = false) := by
  have aux : ∀ (l : List MapEntry) (i : Nat), IntKeys l →
      (Instr.findNow (.int .i64) (.int .i64 k) l i = some none ∧ look k l = none) ∨
      ∃ j e, Instr.findNow (.int .i64) (.int .i64 k) l i = some (some (i + j, e.val)) ∧ l[j]? = some e ∧ e.key = .int .i64 k ∧ look k l = some e.val ∧ (∀ i x, i < j → l[i]? = some x → keyIs k x.key = false) := by
    intro l
    induction l with
    | nil => intro i _; exact .inl ⟨rfl, rfl⟩
    | cons e es ih =>
      intro i h
      have he := h e (List.mem_cons_self)
      obtain ⟨r, hr, hiff⟩ := sameNow_of_keys (d := .int .i64) (a := .int .i64 k) (b := e.key) rfl he
      cases r with
      | true =>
        have hk : e.key = .int .i64 k := (hiff.1 rfl).symm
        refine .inr ⟨0, e, by simp [Instr.findNow, hr], rfl, hk, ?_, fun i x hi => by omega⟩
        simp [look, keyIs_iff.2 hk]
      | false =>
        have hne : keyIs k e.key = false := by
          cases hq : keyIs k e.key
          · rfl
          · have := hiff.2 (keyIs_iff.1 hq).symm; cases this
        have hl : look k (e :: es) = look k es := by simp [look, hne]
        rcases ih (i + 1) (fun x hx => h x (List.mem_cons_of_mem _ hx)) with ⟨h1, h2⟩ | ⟨j, e', h1, h2, h3, h4, h5⟩
        · exact .inl ⟨by simp [Instr.findNow, hr, h1], by rw [hl]; exact h2⟩
        · refine .inr ⟨j + 1, e', by simp [Instr.findNow, hr, h1]; omega, by simpa using h2, h3, by rw [hl]; exact h4, ?_⟩
          intro m x hm hx
          cases m with
          | zero => simp at hx; subst hx; exact hne
          | succ m => exact h5 m x (by omega) (by simpa using hx)
  have := aux l 0 h
  simpa using this

theorem look_none_all {k : Int} {l : List MapEntry} (h : look k l = none) : ∀ e ∈ l, keyIs k e.key = false := by
  intro e he
  simp [look] at h
  exact h e he

theorem look_append (k : Int) (l r : List MapEntry) : look k (l ++ r) = (look k l).or (look k r) := by
  simp only [look, List.find?_append]
  cases List.find? (fun e => keyIs k e.key) l <;> simp

theorem look_modify {k : Int} {v : Value} : ∀ (l : List MapEntry) (j : Nat) (e : MapEntry), l[j]? = some e → e.key = .int .i64 k → (∀ i x, i < j → l[i]? = some x → keyIs k x.key = false) →
    ∀ k', look k' (l.modify j fun e => { e with key := .int .i64 k, val := v }) = if k' = k then some v else look k' l
  | [], j, e, h, _, _, _ => by simp at h
  | a :: l, 0, e, h, hk, _, k' => by
    simp at h
    subst h
    by_cases hkk : k' = k
    · subst hkk
      simp [look, keyIs]
    · have h1 : keyIs k' (.int .i64 k) = false := by simp [keyIs]; exact fun h => hkk h.symm
      simp [look, h1, hk, hkk]
  | a :: l, j + 1, e, h, hk, hb, k' => by
    have ha := hb 0 a (by omega) rfl
    have ih := look_modify (v := v) l j e (by simpa using h) hk (fun i x hi hx => hb (i + 1) x (by omega) (by simpa using hx)) k'
    have e1 : (a :: l).modify (j + 1) (fun e => { e with key := .int .i64 k, val := v }) = a :: l.modify j (fun e => { e with key := .int .i64 k, val := v }) := by simp
    rw [e1]
    by_cases hkk : k' = k
    · subst hkk
      simp only [if_true] at ih ⊢
      have : look k' (a :: l.modify j fun e => { e with key := .int .i64 k', val := v }) = look k' (l.modify j fun e => { e with key := .int .i64 k', val := v }) := by simp [look, ha]
      rw [this, ih]
    · rw [if_neg hkk] at ih ⊢
      cases hq : keyIs k' a.key
      · have e2 : ∀ r, look k' (a :: r) = look k' r := fun r => by simp [look, hq]
        rw [e2, e2, ih]
      · simp [look, hq]

theorem look_erase {k : Int} : ∀ (l : List MapEntry) (j : Nat) (e : MapEntry), l[j]? = some e → e.key = .int .i64 k → ∀ k', k' ≠ k → look k' (l.eraseIdx j) = look k' l
  | [], j, e, h, _, _, _ => by simp at h
  | a :: l, 0, e, h, hk, k', hkk => by
    simp at h
    subst h
    have h1 : keyIs k' (.int .i64 k) = false := by simp [keyIs]; exact fun h => hkk h.symm
    simp [look, hk, h1]
  | a :: l, j + 1, e, h, hk, k', hkk => by
    have ih := look_erase l j e (by simpa using h) hk k' hkk
    have e1 : (a :: l).eraseIdx (j + 1) = a :: l.eraseIdx j := by simp
    rw [e1]
    cases hq : keyIs k' a.key
    · have e2 : ∀ r, look k' (a :: r) = look k' r := fun r => by simp [look, hq]
      rw [e2, e2, ih]
    · simp [look, hq]


theorem run_look {w : World} {bm : Nat} {es : Array MapEntry} {clock : Nat} (hb : w.heap[bm]? = some (.map es clock)) (hk : IntKeys es.toList) (k : Int) :
    (Instr.lookup 75 (.map (some bm)) (.int .i64 k) false).run Try.prog w = .ok ((look k es.toList).getD (.slice none 0 0)) w := by
  have hc := run_checkKey (P := Try.prog) (w := w) (kt := 3) (d := .int .i64) (k := .int .i64 k) Try.underlying3 rfl es.isEmpty 9999
  rcases find_spec k es.toList hk with ⟨h1, h2⟩ | ⟨j, e, h1, _, _, h2, _⟩
  · have hf := run_findKey (P := Try.prog) (w := w) (kt := 3) Try.underlying3 h1
    simp [Instr.lookup, run_underlying Try.underlying75, MapKept.run_getObj_map hb, hc, hf, h2]
  · have hf := run_findKey (P := Try.prog) (w := w) (kt := 3) Try.underlying3 h1
    simp [Instr.lookup, run_underlying Try.underlying75, MapKept.run_getObj_map hb, hc, hf, h2]

theorem run_upd {w : World} {bm : Nat} {es : Array MapEntry} {clock : Nat} (hb : w.heap[bm]? = some (.map es clock)) (hk : IntKeys es.toList) (k : Int) (v : Value) :
    ∃ es' clock', (Instr.mapUpdate 75 (.map (some bm)) (.int .i64 k) v).run Try.prog w = .ok () (setBlock w bm (.map es' clock')) ∧ IntKeys es'.toList ∧ ∀ k', look k' es'.toList = if k' = k then some v else look k' es.toList := by
  have hc := run_checkKey (P := Try.prog) (w := w) (kt := 3) (d := .int .i64) (k := .int .i64 k) Try.underlying3 rfl false 9999
  rcases find_spec k es.toList hk with ⟨h1, h2⟩ | ⟨j, e, h1, h2, h3, h4, h5⟩
  · have hf := run_findKey (P := Try.prog) (w := w) (kt := 3) Try.underlying3 h1
    refine ⟨es.push { key := .int .i64 k, val := v, born := clock }, clock + 1, ?_, ?_, ?_⟩
    · simp [Instr.mapUpdate, run_underlying Try.underlying75, MapKept.run_getObj_map hb, hc, hf, MapKept.run_setObj_map _ hb, setBlock]
    · intro x hx
      simp at hx
      rcases hx with hx | rfl
      · exact hk x (by simpa using hx)
      · rfl
    · intro k'
      rw [Array.toList_push, look_append]
      by_cases hkk : k' = k
      · subst hkk
        rw [h2]
        simp [look, keyIs]
      · rw [if_neg hkk]
        have : keyIs k' (.int .i64 k) = false := by simp [keyIs]; exact fun h => hkk h.symm
        simp [look, this]
  · have hf := run_findKey (P := Try.prog) (w := w) (kt := 3) Try.underlying3 h1
    refine ⟨es.modify j (fun e => { e with key := .int .i64 k, val := v }), clock, ?_, ?_, ?_⟩
    · have he : (es[j]?.map (·.key)).getD (.int .i64 k) = .int .i64 k := by
        have : es[j]? = some e := by simpa using h2
        simp [this, h3]
      have hs : Instr.sameBits 10000 (.int .i64 k) (.int .i64 k) = true := by simp [Instr.sameBits]
      have hks : (Instr.keyThatStays (.int .i64 k) (.int .i64 k)).run Try.prog w = .ok (.int .i64 k) w := by simp [Instr.keyThatStays, hs]
      simp only [Instr.mapUpdate, run_underlying Try.underlying75, MapKept.run_getObj_map hb, hc, hf, Sem.run_bind, Result.andThen_ok, he, hks, MapKept.run_setObj_map _ hb, setBlock]
    · intro x hx
      rw [Array.toList_modify] at hx
      obtain ⟨i, hi, rfl⟩ := List.mem_iff_getElem.1 hx
      rw [List.getElem_modify]
      split
      · rfl
      · exact hk _ (List.getElem_mem _)
    · intro k'
      rw [Array.toList_modify]
      exact look_modify es.toList j e h2 h3 h5 k'

theorem run_del {w : World} {bm : Nat} {es : Array MapEntry} {clock : Nat} (hb : w.heap[bm]? = some (.map es clock)) (hk : IntKeys es.toList) (k : Int) (ty : TypeId) :
    ∃ es', (Builtin.delete_ #[75, 3] ty #[.map (some bm), .int .i64 k]).run Try.prog w = .ok (.tuple #[]) (setBlock w bm (.map es' clock)) ∧ IntKeys es'.toList ∧ ∀ k', k' ≠ k → look k' es'.toList = look k' es.toList := by
  have hc := run_checkKey (P := Try.prog) (w := w) (kt := 3) (d := .int .i64) (k := .int .i64 k) Try.underlying3 rfl es.isEmpty 9999
  rcases find_spec k es.toList hk with ⟨h1, h2⟩ | ⟨j, e, h1, h2, h3, h4, h5⟩
  · have hf := run_findKey (P := Try.prog) (w := w) (kt := 3) Try.underlying3 h1
    refine ⟨es, ?_, hk, fun _ _ => rfl⟩
    simp [Builtin.delete_, run_underlying Try.underlying75, MapKept.run_getObj_map hb, hc, hf, MapKept.run_setObj_map _ hb, setBlock]
  · have hf := run_findKey (P := Try.prog) (w := w) (kt := 3) Try.underlying3 h1
    refine ⟨es.eraseIdxIfInBounds j, ?_, ?_, ?_⟩
    · simp [Builtin.delete_, run_underlying Try.underlying75, MapKept.run_getObj_map hb, hc, hf, MapKept.run_setObj_map _ hb, setBlock]
    · intro x hx
      rw [Array.toList_eraseIdxIfInBounds] at hx
      exact hk x (List.mem_of_mem_eraseIdx hx)
    · intro k' hkk
      rw [Array.toList_eraseIdxIfInBounds]
      exact look_erase es.toList j e h2 h3 k' hkk

theorem run_clr {w : World} {bm : Nat} {es : Array MapEntry} {clock : Nat} (hb : w.heap[bm]? = some (.map es clock)) (ty : TypeId) :
    (Builtin.clear_ #[75] ty #[.map (some bm)]).run Try.prog w = .ok (.tuple #[]) (setBlock w bm (.map #[] clock)) := by
  simp [Builtin.clear_, run_underlying Try.underlying75, MapKept.run_getObj_map hb, MapKept.run_setObj_map _ hb, setBlock]

end Go.Proofs.Qxb6612833a

/- The proof of 'Rows.FnHoldsAudienceOverJoinedListsToldSaid': the card, fmt's text told by the authors' own function (no text of fmt's is met on any road that a run takes here). -/
import Derived.Test.Qxb6612961aFmtCards
import Derived.Test.Qxb6612961aFmtJoin
import Derived.ProofKit
import Derived.OpenShut
import Derived.SliceStrings
import Derived.ShutString
import Derived.ChangeSlices
import Derived.ChangeSame
import Derived.ChangeMaps5
import Derived.JoinedOf
import Derived.Carry
import Derived.Stop.JoinedAt
import Derived.Stop.Texts
import Derived.Stop.JoinedTold
import Derived.SizedLaws
import Derived.SevenToldRow
namespace Go.Proofs.Qxb6612961aFmt.fnHoldsAudienceOverJoinedLists
open Go.ChangeShapes Go.WideShapes Go.ChangeAt Go.RowKit Go.Kit
open Go.ChangeMaps (open_string shut_string)
open Go.Extern.Stop Go.Stop Go.Extern
open Go.Proofs.Qxb6612961aFmt.Held

theorem own : ownKnob Tryf.prog.godebug = none := by kernel_rfl
theorem laidOut : laidOutB Tryf.pinned.checked.prog = true := by kernel_rfl
theorem stops : Tryf.pinned.checked.prog.stops = Rows.fnHoldsAudienceOverJoinedListsRow.stops := by kernel_rfl
theorem stopKnobs : Tryf.pinned.checked.prog.stopKnobs = [] := by kernel_rfl
theorem quiet (os : Os) : Stop.quiet Tryf.pinned.checked.prog os := by
  intro k hk
  rw [stopKnobs] at hk
  cases hk

/-- What the walk is told of a slice of strings that came in. -/
def IsStrs (w : World) (o : Option Addr) (n cap : Nat) (ss : List ByteArray) : Prop :=
  n = ss.length ∧ n ≤ 9223372036854775807 ∧ Strs w o ss ∧ (o = none → n = 0 ∧ cap = 0) ∧ (∀ ad, o = some ad → 0 < n → ad.block < w.heap.size) ∧ ∀ k, k < ss.length → (sat ss k).size ≤ 9223372036854775807

theorem isStrs {w : World} {a : Addr} {len cap : Nat} {ss : List ByteArray} (hl : len ≤ ss.length) (hlc : len ≤ cap) (hm : cap ≤ maxLen)
    (hc : ∀ i, i < ss.length → w.cell? (a.add i) = some (.string (ss.getD i ByteArray.empty))) (hz : ∀ s ∈ ss, s.size ≤ maxLen) : IsStrs w (some a) len cap (ss.take len) := by
  unfold maxLen at hm hz
  have hsat : ∀ k, k < len → sat (ss.take len) k = ss.getD k ByteArray.empty := fun k hk => by simp [sat, List.getD, hk]
  refine ⟨by simp; omega, by omega, fun k hk => ?_, (fun h => by cases h), fun ad e hp => ?_, fun k hk => ?_⟩
  · have hk' : k < len := by simp at hk; omega
    have h := hc k (by omega)
    obtain ⟨b, off, spot⟩ := a
    have hspot : spot = none := by simpa [Addr.add] using World.cell?_spot (hc 0 (by omega))
    subst hspot
    refine ⟨b, off, rfl, ?_⟩
    rw [hsat k hk', ← Go.WideShapes.add_plain]
    exact h
  · cases e
    have h := World.block_lt_of_cell? w _ (hc 0 (by omega))
    simpa [Addr.add] using h
  · have hk' : k < len := by simp at hk; omega
    rw [hsat k hk']
    have hmem : ss.getD k ByteArray.empty ∈ ss := by
      rw [List.getD_eq_getElem?_getD, List.getElem?_eq_getElem (by omega)]
      exact List.getElem_mem _
    exact hz _ hmem

set_option maxRecDepth 100000 in
theorem lifted (os : Os) (started : os.Started) (H : Type) (enc : TypeId × Value → H) :
    ReturnsInTold none {} Tryf.checked os 3 .any Input.okWide ((OpenSpec.ofChange Rows.fnHoldsAudienceOverJoinedListsSpec).preRow enc Tryf.prog Tryf.f3 [] false []) (fun F => ((OpenSpec.ofChange Rows.fnHoldsAudienceOverJoinedListsSpec).at F).post enc Tryf.prog Tryf.f3 false true false false) (aloneAtReturn Tryf.prog) nothingAlways := by
  refine returnsInTold_of_row (C := Tryf.checked) (s := OpenSpec.ofChange Rows.fnHoldsAudienceOverJoinedListsSpec) (by kernel_rfl) own started (by kernel_rfl) Tryf.func3
    (OpenSpec.witness_stopped (enc := enc) (C := Tryf.checked) false ⟨#[], #[.slice none 0 0, .slice none 0 0, .string ByteArray.empty], []⟩ 8 (by kernel_rfl) (by kernel_rfl) (by kernel_rfl) (by kernel_rfl)) ?_
  intro F W base args ds gs before _ hF hval0 hW _ _ hsz _ _
  have hval : ∀ (j : Nat) t v, Tryf.f3.params[j]? = some t → args[j]? = some v → Value.okWide Tryf.prog W .any base t v := hval0
  have hW' := hW
  obtain ⟨p, q, hA0, hV, rfl, _, _⟩ := hW
  have hA : DataW.TrodAll enc Tryf.prog W 0 (fun _ => true) true Tryf.f3.params.toList args.toList ds p := hA0
  rw [Tryf.params3] at hA hval
  obtain ⟨v0, vs0, d0, ds0, p0, q0, hargs, rfl, rfl, h0, r0⟩ := trodAll_cons hA
  obtain ⟨v1, vs1, d1, ds1, p1, q1, rfl, rfl, rfl, h1, r1⟩ := trodAll_cons r0
  obtain ⟨v2, vs2, d2, ds2, p2, q2, rfl, rfl, rfl, h2, r2⟩ := trodAll_cons r1
  obtain ⟨rfl, rfl, rfl⟩ := trodAll_nil r2
  obtain rfl : args = #[v0, v1, v2] := by cases args; simp_all
  obtain ⟨rfl, rfl⟩ := trodVars_none hV
  obtain ⟨a0, len0, cap0, rfl⟩ := okWide_slice Tryf.underlying22 (hval 0 22 v0 rfl rfl)
  obtain ⟨a1, len1, cap1, rfl⟩ := okWide_slice Tryf.underlying22 (hval 1 22 v1 rfl rfl)
  have k0 := h0
  have k1 := h1
  have lt0 : ∀ x ∈ p0, x.block < W.heap.size := by obtain ⟨m, hm⟩ := k0; exact DataW.trod_lt m _ _ _ hm
  have lt1 : ∀ x ∈ p1, x.block < W.heap.size := by obtain ⟨m, hm⟩ := k1; exact DataW.trod_lt m _ _ _ hm
  have opened : ∀ (o : Option Addr) (n c : Nat) (d : DataW H) (ps : List MemPlace), DataW.Trod enc Tryf.prog W 0 (fun _ => true) true 22 (.slice o n c) d ps → ∃ ss, IsStrs W o n c ss := by
    intro o n c d ps h
    obtain ⟨fuel, hf⟩ := h
    rcases open_strings Tryf.underlying22 Tryf.underlying9 (by kernel_rfl) hf with ⟨hcs, _⟩ | ⟨x, l, c', ss, hcs, _, hl, hm, hz, _, hcell, hwz⟩
    · simp [Value.cells] at hcs
      obtain ⟨rfl, rfl, rfl⟩ := hcs
      exact ⟨[], rfl, by omega, (fun k hk => by simp at hk), (fun _ => ⟨rfl, rfl⟩), (fun ad e => by cases e), (fun k hk => by simp at hk)⟩
    · simp [Value.cells] at hcs
      obtain ⟨rfl, rfl, rfl⟩ := hcs
      simp only [if_true] at hz
      exact ⟨ss.take n, isStrs (by omega) hl hm hcell hwz⟩
  obtain ⟨ss0, e0, m0, s0, z0, b0, l0⟩ := opened a0 len0 cap0 d0 p0 h0
  obtain ⟨ss1, e1, m1, s1, z1, b1, l1⟩ := opened a1 len1 cap1 d1 p1 h1
  obtain ⟨x, rfl, rfl, rfl, hx⟩ := open_string Tryf.underlying9 (hval 2 9 v2 rfl rfl) h2
  clear hA0 hval0
  refine (Held.walk a0 a1 len0 cap0 len1 cap1 ss0 ss1 x W e0 e1 m0 m1 s0 s1 z0 z1 b0 b1 l0 l1 (by unfold maxLen at hx; omega)).mono fun e W' ⟨he, bel⟩ => ?_
  subst he
  exact ⟨_, rfl, _, _, _, [], _, [], hW', trodAll_mk1 (shut_bool Tryf.underlying4 _), (trodAll_cons_mk (Below.trod laidOut (by kernel_rfl) (of_decide_eq_true (by kernel_rfl)) k0 bel lt0) (trodAll_cons_mk (Below.trod laidOut (by kernel_rfl) (of_decide_eq_true (by kernel_rfl)) k1 bel lt1) (trodAll_cons_mk (shut_string Tryf.underlying9 hx) trodAll_mk0))), rfl, bel.frame _, fun h => by cases h⟩

/-- THE STATEMENT. -/
theorem proved : Rows.FnHoldsAudienceOverJoinedListsToldSaid :=
  Claim7.holds_of_told_any 3 Tryf.f3 _ _ [] _ _ _ (by kernel_rfl) rfl rfl rfl laidOut (by kernel_rfl) rfl ⟨rfl, rfl, rfl, rfl, rfl, rfl, rfl⟩ rfl rfl (by kernel_rfl) (by kernel_rfl) Tryf.func3 (by kernel_rfl)
    (of_decide_eq_true (by kernel_rfl)) (of_decide_eq_true (by kernel_rfl)) stops.symm rfl stopKnobs.symm (by kernel_rfl)
    (by kernel_rfl) (by kernel_rfl) (by kernel_rfl) (by kernel_rfl) (by kernel_rfl) (by kernel_rfl) (by kernel_rfl) (by kernel_rfl) (by kernel_rfl) rfl (by kernel_rfl) rfl rfl
    rfl rfl
    rfl (by kernel_rfl) (by kernel_rfl) (by kernel_rfl) (by decide) (by kernel_rfl)
    (OpenClaim.moreEntering_of (by kernel_rfl) (by kernel_rfl) (by kernel_rfl) (by kernel_rfl) (by kernel_rfl) (by kernel_rfl) (by kernel_rfl) (by kernel_rfl) (by kernel_rfl) (by kernel_rfl))
    ⟨_, WideRow.started_initial, quiet _⟩
    (fun os started _ H enc _ => lifted os started H enc)
end Go.Proofs.Qxb6612961aFmt.fnHoldsAudienceOverJoinedLists

/- The list of strings under 'any': stringList (function 14), holdsAudience (11), ZZholdsAudienceList (6). -/
import Derived.Test.Qxb6612961aFmtLists
import Derived.OwnWalk
namespace Go.Proofs.Qxb6612961aFmt.Held
open Go.RowKit

theorem info9 : (Tryf.prog.info? 9).map (fun i => (i.zero, i.size, i.bytes)) = some (some (.string ByteArray.empty), 1, 16) := by kernel_rfl
theorem info20 : (Tryf.prog.info? 20).map (fun i => (i.zero, i.size, i.bytes)) = some (some .nilIface, 1, 16) := by kernel_rfl

theorem assert9 (v : Value) (w : World) : (Instr.typeAssert (.iface 9 v) 20 9 true).run Tryf.prog w = .ok (.tuple #[v, .bool true]) w := by kernel_rfl
theorem assert28_9 (v : Value) (w : World) : (Instr.typeAssert (.iface 28 v) 20 9 true).run Tryf.prog w = .ok (.tuple #[.string ByteArray.empty, .bool false]) w := by kernel_rfl
theorem assert28 (v : Value) (w : World) : (Instr.typeAssert (.iface 28 v) 20 28 true).run Tryf.prog w = .ok (.tuple #[v, .bool true]) w := by kernel_rfl

/-- What the cells hold of a list under 'any' at the head of the row g. -/
def Anys (w : World) (g : Nat) (ss : List ByteArray) : Prop :=
  ∀ k, k < ss.length → w.cell? ⟨g, k, none⟩ = some (.iface 9 (.string (sat ss k)))

/-- The row g, made by the call, holds the first k strings. -/
def Filled (w : World) (base g n : Nat) (ss : List ByteArray) (k : Nat) : Prop :=
  ∃ xs, w.ownsRow base 9 1 (.slice (some ⟨g, 0, none⟩) n n) n xs ∧ ∀ j, j < k → xs[j]? = some (.string (sat ss j))

theorem Filled.strs {w : World} {base g n : Nat} {ss : List ByteArray} (h : Filled w base g n ss n) (hn : n = ss.length) : Strs w (some ⟨g, 0, none⟩) ss := by
  obtain ⟨xs, ho, hx⟩ := h
  intro k hk
  refine ⟨g, 0, rfl, ?_⟩
  rw [Nat.zero_add, ho.cellAt k (by omega), hx k (by omega)]

theorem Filled.step {w : World} {base g n : Nat} {ss : List ByteArray} {k : Nat} (h : Filled w base g n ss k) (hk : k < n) :
    Filled (w.setCell ⟨g, k, none⟩ (.string (sat ss k))) base g n ss (k + 1) := by
  obtain ⟨xs, ho, hx⟩ := h
  refine ⟨_, (ho.stored k _).1, fun j hj => ?_⟩
  have hl := ho.1
  by_cases e : j = k
  · subst e
    rw [List.getElem?_set_self (by omega)]
  · rw [List.getElem?_set_ne (by omega)]
    exact hx j (by omega)

theorem Filled.has {w : World} {base g n : Nat} {ss : List ByteArray} {k : Nat} (h : Filled w base g n ss k) (hk : k < n) :
    (∃ v, w.cell? ⟨g, k, none⟩ = some v) ∧ w.frozen? ⟨g, k, none⟩ = false := by
  obtain ⟨xs, ho, hx⟩ := h
  have hl := ho.1
  refine ⟨⟨xs[k]'(by omega), ?_⟩, ho.frozenAt k⟩
  rw [ho.cellAt k (by omega)]; simp

set_option maxHeartbeats 1000000 in
theorem list14 (b : Nat) (n cap : Nat) (ss : List ByteArray) (nm : ByteArray) (w : World) (hn : n = ss.length) (hm : n ≤ 4194304) (hc : Anys w b ss) (hb : b < w.heap.size) :
    Calls Tryf.prog 14 #[.string nm, .slice (some ⟨b, 0, none⟩) n cap] w fun e w' => ∃ g, e = .returned (.tuple #[.slice (some ⟨g, 0, none⟩) n n, .nilIface]) ∧ Strs w' (some ⟨g, 0, none⟩) ss ∧ Below w.heap.size w w' := by
  obtain ⟨i, hi, hz0, hz1, hz2⟩ := info_parts info9
  have HC : Hid (Anys w b ss) := hc
  have HN : Hid (n = ss.length) := hn
  clear hc hn
  have ha := assert9
  go_enter Tryf.func14, Tryf.ntmps14
  go_wp2_with (at_make; refine wpList_make_full _ rfl _ _ 22 rfl w.heap.size 9 i (.string ByteArray.empty) 1 Tryf.underlying22 hi hz0 hz1 _ _ _ _ n rfl rfl (by omega) (by omega) ?b2 ?b3 ?b4 ?_)
  case b2 => rw [hz2]; omega
  case b3 => unfold maxLen; omega
  case b4 => exact Nat.le_refl _
  intro w1 ho hg
  have F0 : Hid (Filled w1 w.heap.size w.heap.size n ss 0) := ⟨_, ho, fun j hj => by omega⟩
  have B0 : Hid (Below w.heap.size w w1) := (Below.refl _ _).grown hg (Nat.le_refl _) (fun k hk => by cases hk)
  clear ho hg
  go_wp2
  go_loopw [15] (fun i wr => ∃ k : Nat, k ≤ n ∧ i = .int .i64 k ∧ Filled wr w.heap.size w.heap.size n ss k ∧ Below w.heap.size w wr) (fun i _ => n - (intOf i).toNat)
  case atStart => exact ⟨0, Nat.zero_le _, rfl, F0.out, B0.out⟩
  case round =>
    obtain ⟨k, hk, rfl, hF, hB⟩ := hrel
    have HF : Hid (Filled wr w.heap.size w.heap.size n ss k) := hF
    have HB : Hid (Below w.heap.size w wr) := hB
    clear hF hB
    by_cases hlt : k < n
    · obtain ⟨⟨v, hv⟩, hz⟩ := HF.out.has hlt
      have hcell : wr.cell? ⟨b, k, none⟩ = some (.iface 9 (.string (sat ss k))) := (HB.out.cell (p := ⟨b, k, none⟩) hb).trans (HC.out k (by have := HN.out; omega))
      go_wp2
      go_roundw
      case rel => exact ⟨k + 1, by omega, by go_num, HF.out.step hlt, HB.out.setCell (Nat.le_refl _) _⟩
      case measure => simp [intOf]; omega
    · have e : k = n := by omega
      have S : Hid (Strs wr (some ⟨w.heap.size, 0, none⟩) ss) := by
        have := HF.out
        rw [e] at this
        exact this.strs HN.out
      go_wp2
      go_ret2
      exact ⟨_, rfl, S.out, HB.out⟩

set_option maxHeartbeats 1000000 in
theorem aud11 (b : Nat) (n cap : Nat) (ss : List ByteArray) (x : ByteArray) (w : World) (hn : n = ss.length) (hm : n ≤ 4194304) (hc : Anys w b ss) (hb : b < w.heap.size) :
    Calls Tryf.prog 11 #[.iface 28 (.slice (some ⟨b, 0, none⟩) n cap), .string x] w fun e w' => e = .returned (.bool (has ss x)) ∧ Below w.heap.size w w' := by
  have HC : Hid (Anys w b ss) := hc
  have HN : Hid (n = ss.length) := hn
  clear hc hn
  have ha := assert28_9
  have ha' := assert28
  go_enter Tryf.func11, Tryf.ntmps11
  go_wp2_with fail
  refine (list14 b n cap ss _ _ HN.out hm HC.out hb).mono ?_
  rintro e w1 ⟨g, rfl, S, bel⟩
  have HS : Hid (Strs w1 (some ⟨g, 0, none⟩) ss) := S
  have HB : Hid (Below w.heap.size w w1) := bel
  clear S bel
  go_wp2_with fail
  refine (contains15 _ n n ss x _ HN.out hm HS.out).mono ?_
  rintro e w2 ⟨rfl, rfl⟩
  go_wp2
  go_ret
  exact ⟨rfl, HB.out⟩

/-- The row g, made by the call with room for n, holds the first k strings under 'any'. -/
def Heaped (w : World) (base g n : Nat) (ss : List ByteArray) (k : Nat) : Prop :=
  ∃ xs, w.ownsRow base 20 1 (.slice (some ⟨g, 0, none⟩) k n) k xs ∧ ∀ j, j < k → xs[j]? = some (.iface 9 (.string (sat ss j)))

theorem Heaped.anys {w : World} {base g n : Nat} {ss : List ByteArray} (h : Heaped w base g n ss n) (hn : n = ss.length) : Anys w g ss ∧ g < w.heap.size := by
  obtain ⟨xs, ho, hx⟩ := h
  refine ⟨fun k hk => ?_, (ho.lt g rfl).2⟩
  rw [ho.cellAt k (by omega), hx k (by omega)]

set_option maxHeartbeats 1000000 in
theorem zlist6 (o : Option Addr) (n cap : Nat) (ss : List ByteArray) (x : ByteArray) (w : World) (hn : n = ss.length) (hm : n ≤ 4194304) (hS : Strs w o ss) (hlt : ∀ ad, o = some ad → ad.block < w.heap.size) :
    Calls Tryf.prog 6 #[.slice o n cap, .string x] w fun e w' => e = .returned (.bool (has ss x)) ∧ Below w.heap.size w w' := by
  obtain ⟨i, hi, hz0, hz1, hz2⟩ := info_parts info20
  have HS : Hid (Strs w o ss) := hS
  have HL : Hid (∀ ad, o = some ad → ad.block < w.heap.size) := hlt
  have HN : Hid (n = ss.length) := hn
  clear hS hn hlt
  go_enter Tryf.func6, Tryf.ntmps6
  go_wp2_with (at_make; refine wpList_make_own _ rfl _ _ 28 rfl w.heap.size 20 i .nilIface 1 Tryf.underlying28 hi hz0 hz1 _ _ _ n rfl rfl (by omega) ?b2 ?b3 ?b4 ?_)
  case b2 => rw [hz2]; omega
  case b3 => unfold maxLen; omega
  case b4 => exact Nat.le_refl _
  intro w1 ho hg
  have F0 : Hid (Heaped w1 w.heap.size w.heap.size n ss 0) := ⟨_, ho, fun j hj => by omega⟩
  have B0 : Hid (Below w.heap.size w w1) := (Below.refl _ _).grown hg (Nat.le_refl _) (fun k hk => by cases hk)
  clear ho hg
  go_wp2
  go_loopw [5, 13] (fun v i wr => ∃ k : Nat, k ≤ n ∧ i = .int .i64 k ∧ v = .slice (some ⟨w.heap.size, 0, none⟩) k n ∧ Heaped wr w.heap.size w.heap.size n ss k ∧ Below w.heap.size w wr) (fun _ i _ => n - (intOf i).toNat)
  case atStart => exact ⟨0, Nat.zero_le _, rfl, rfl, F0.out, B0.out⟩
  case round =>
    obtain ⟨k, hk, rfl, rfl, hF, hB⟩ := hrel
    have HF : Hid (Heaped wr w.heap.size w.heap.size n ss k) := hF
    have HB : Hid (Below w.heap.size w wr) := hB
    clear hF hB
    by_cases hlt : k < n
    · obtain ⟨b, off, rfl, hcell0⟩ := HS.out k (by have := HN.out; omega)
      have hcell : wr.cell? ⟨b, off + k, none⟩ = some (.string (sat ss k)) := (HB.out.cell (p := ⟨b, off + k, none⟩) (HL.out ⟨b, off, none⟩ rfl)).trans hcell0
      clear hcell0
      obtain ⟨xs, hox, hxs⟩ := HF.out
      have HO : Hid ((wr.alloc (.cells #[.iface 9 (.string (sat ss k))] 20)).ownsRow w.heap.size 20 1 (.slice (some ⟨w.heap.size, 0, none⟩) k n) k xs) := hox.alloc _
      have HX : Hid (∀ j, j < k → xs[j]? = some (.iface 9 (.string (sat ss j)))) := hxs
      have hxl : xs.length = k := by have := hox.1; omega
      clear hox hxs
      go_wp2_with (at_builtin; refine wpList_append_fits _ rfl _ _ 28 rfl w.heap.size 20 i 1 Tryf.underlying28 hi hz1 w.heap.size k n xs rfl HO.out ⟨wr.heap.size, 0, none⟩ 1 1 [.iface 9 (.string (sat ss k))] rfl rfl ?cells ?one (by omega) ?_)
      case cells => exact cell_one_new _ _ _
      case one => intro u hu; simp at hu; subst hu; rfl
      intro w2 ho2 hg2
      have HF2 : Hid (Heaped w2 w.heap.size w.heap.size n ss (k + 1)) := by
        refine ⟨_, ho2, fun j hj => ?_⟩
        by_cases e : j = k
        · subst e
          rw [List.getElem?_append_right (by omega)]
          simp [hxl]
        · rw [List.getElem?_append_left (by omega)]
          exact HX.out j (by omega)
      have HB2 : Hid (Below w.heap.size w w2) := (HB.out.alloc HB.out.size _).grown hg2 (by have := HB.out.size; simp; omega) (fun k hk => by cases hk; exact Nat.le_refl _)
      clear ho2 hg2
      go_wp2
      go_roundw
      case rel => exact ⟨k + 1, by omega, by go_num, rfl, HF2.out, HB2.out⟩
      case measure => simp [intOf]; omega
    · have e : k = n := by omega
      subst e
      have hA := HF.out.anys HN.out
      have HA : Hid (Anys wr w.heap.size ss) := hA.1
      have hsz := hA.2
      clear hA
      go_wp2_with fail
      refine (aud11 _ _ _ ss x _ HN.out hm HA.out hsz).mono ?_
      rintro e2 w2 ⟨rfl, bel⟩
      have HB2 : Hid (Below w.heap.size w w2) := HB.out.trans (bel.mono HB.out.size)
      clear bel
      go_wp2
      go_ret
      exact ⟨rfl, HB2.out⟩
end Go.Proofs.Qxb6612961aFmt.Held

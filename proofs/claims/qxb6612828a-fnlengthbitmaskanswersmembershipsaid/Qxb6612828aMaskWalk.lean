/- The walk of 'FnLengthBitMaskAnswersMembership' (function 4) and of its bound on the length (function 7). -/
import Derived.Test.Qxb6612828aMask
import Derived.WalkKit
import Derived.ProofKit
import Derived.OpenShut
import Derived.WalkLawsBesides
import Derived.ChangeOld
import Derived.Below
namespace Go.Proofs.Qxb6612828a.Mask
open Go.ChangeShapes Go.WideShapes Go.ChangeAt Go.RowKit
set_option maxHeartbeats 400000 in
theorem bytes (a : Option Addr) (len cap : Nat) (q : Int) (w : World) (hl : len ≤ 9223372036854775807) :
    Calls Try.prog 7 #[.slice a len cap, .int .i64 q] w fun e w' => e = .returned (.bool (decide (len ≤ 1048576))) ∧ w' = w := by
  by_cases h : len ≤ 1048576
  · have h1 : ¬ (1048576 : Int) < len := by omega
    have h2 : decide (len ≤ 1048576) = true := by simpa using h
    rw [h2]
    go_enter Try.func7, Try.ntmps7
    go_wp2
    go_ret
    exact ⟨rfl, rfl⟩
  · have h1 : (1048576 : Int) < len := by omega
    have h2 : decide (len ≤ 1048576) = false := by simpa using h
    rw [h2]
    go_enter Try.func7, Try.ntmps7
    go_wp2
    go_ret
    exact ⟨rfl, rfl⟩
theorem ret_bool {a b : Bool} (h : a = b) : Ending.returned (.bool a) = .returned (.bool b) := by rw [h]
def el (zs : List Int) (k : Nat) : Int := zs.getD k 0
theorem take_snoc (zs : List Int) (k : Nat) (h : k < zs.length) : zs.take (k + 1) = zs.take k ++ [el zs k] := by
  rw [List.take_succ_eq_append_getElem h]; simp [el, h]
theorem el_mem (zs : List Int) (h : ∀ j, j < zs.length → 0 ≤ el zs j) : ∀ z ∈ zs, 0 ≤ z := by
  intro z hz
  obtain ⟨i, hi, e⟩ := List.mem_iff_getElem.1 hz
  have := h i hi
  rw [el, List.getD_eq_getElem?_getD, List.getElem?_eq_getElem hi] at this
  simp at this
  omega
theorem msk_take (zs : List Int) (k : Nat) (h : k < zs.length) : bits .or .u64 (mskN (zs.take k) : Int) (lbit (el zs k)) = ((mskN (zs.take (k + 1)) : Nat) : Int) := by
  rw [take_snoc zs k h]; exact or_step _ _
theorem wnt_take (q : Int) (zs : List Int) (k : Nat) (h : k < zs.length) : wnt q (zs.take (k + 1)) = (wnt q (zs.take k) || (el zs k == q || (decide (63 ≤ el zs k) && decide (63 ≤ q)))) := by
  rw [take_snoc zs k h]; exact wnt_snoc _ _ _
def mk (zs : List Int) (k : Nat) : Int := (mskN (zs.take k) : Int)
theorem mk_bd (zs : List Int) (k : Nat) : 0 ≤ mk zs k ∧ mk zs k < 18446744073709551616 := by
  have := msk_lt (zs.take k)
  unfold mk
  omega
theorem mk_step (zs : List Int) (k : Nat) (h : k < zs.length) : bits .or .u64 (mk zs k) (lbit (el zs k)) = mk zs (k + 1) := msk_take zs k h
def wn (q : Int) (zs : List Int) (k : Nat) : Bool := wnt q (zs.take k)

theorem st_yes1 (b : Bool) (x q : Int) (h : x = q) : Value.bool true = Value.bool (b || (x == q || decide (63 ≤ x) && decide (63 ≤ q))) := by
  subst h; simp
theorem st_yes2 (b : Bool) (x q : Int) (h1 : 63 ≤ x) (h2 : (x == q) = true ∨ 63 ≤ q) : Value.bool true = Value.bool (b || (x == q || decide (63 ≤ x) && decide (63 ≤ q))) := by
  rcases h2 with h2 | h2
  · simp [h2]
  · simp [h1, h2]
theorem st_no1 (b : Bool) (x q : Int) (h : (x == q) = false ∧ q < 63) : Value.bool b = Value.bool (b || (x == q || decide (63 ≤ x) && decide (63 ≤ q))) := by
  have : ¬ 63 ≤ q := by omega
  simp [h.1, this]
theorem st_no2 (b : Bool) (x q : Int) (h1 : ¬ 63 ≤ x) (h : (x == q) = false) : Value.bool b = Value.bool (b || (x == q || decide (63 ≤ x) && decide (63 ≤ q))) := by
  simp [h, h1]

set_option maxHeartbeats 1000000 in
theorem walk_row (b off len cap : Nat) (zs : List Int) (q : Int) (w : World) (hz : zs.length = len) (hm : len ≤ 65536) (hq : 0 ≤ q)
    (hc : ∀ k, k < len → w.cell? ⟨b, off + k, none⟩ = some (.int .i64 (el zs k))) :
    Calls Try.prog 4 #[.slice (some ⟨b, off, none⟩) len cap, .int .i64 q] w fun e w' => e = .returned (.bool true) ∧ Below w.heap.size w w' := by
  have hb : decide (len ≤ 1048576) = true := by simp; omega
  have h2 : decide ((65536 : Int) < len) = false := decide_eq_false (by omega)
  have h3 : decide (q < 0) = false := decide_eq_false (by omega)
  have hfin : Hid ((∀ j, j < len → 0 ≤ el zs j) → (bits .and .u64 (mk zs len) (lbit q) != 0) = wn q zs len) := (fun h => by
    unfold mk wn
    rw [List.take_of_length_le (by omega)]
    exact law zs q (el_mem zs (by rw [hz]; exact h)) hq)
  have hstep : Hid (∀ k, k < len → bits .or .u64 (mk zs k) (lbit (el zs k)) = mk zs (k + 1)) := (fun k h => mk_step zs k (by omega))
  have hw : Hid (∀ k, k < len → wn q zs (k + 1) = (wn q zs k || (el zs k == q || (decide (63 ≤ el zs k) && decide (63 ≤ q))))) := (fun k h => wnt_take q zs k (by omega))
  clear hz
  go_enter Try.func4, Try.ntmps4
  go_wp2_with (go_at_call 7; refine (bytes _ _ _ _ _ (by omega)).mono ?_; rintro e w' ⟨rfl, rfl⟩)
  go_loop [5] (fun i => ∃ k : Nat, k ≤ len ∧ i = .int .i64 k ∧ ∀ j, j < k → 0 ≤ el zs j) (fun i => len - (intOf i).toNat)
  case atStart => exact ⟨0, Nat.zero_le _, rfl, fun j h => by omega⟩
  case round =>
    obtain ⟨k, hk, rfl, hpos⟩ := hrel
    by_cases hlt : k < len
    · have hcell := hc k hlt
      by_cases hneg : el zs k < 0
      · go_wp2
        go_ret
        exact ⟨rfl, Below.refl _ _⟩
      · go_wp2
        go_round
        case rel => exact ⟨k + 1, by omega, by go_num, fun j hj => by
          by_cases e : j = k
          · subst e; omega
          · exact hpos j (by omega)⟩
        case measure => simp [intOf]; omega
    · have hall : Hid (∀ j, j < len → 0 ≤ el zs j) := (fun j hj => hpos j (by omega))
      clear hpos
      go_wp2
      go_loop [6, 7] (fun m i => ∃ k : Nat, k ≤ len ∧ i = .int .i64 k ∧ m = .int .u64 (mk zs k)) (fun _ i => len - (intOf i).toNat)
      case atStart => exact ⟨0, Nat.zero_le _, rfl, rfl⟩
      case round =>
        obtain ⟨k2, hk2, rfl, rfl⟩ := hrel
        have bd := mk_bd zs k2
        by_cases hlt2 : k2 < len
        · have hcell := hc k2 hlt2
          have hp := hall.out k2 hlt2
          go_wp2_with (go_at_call 6; refine (zlb _ _ hp).mono ?_; rintro e w' ⟨rfl, rfl⟩)
          go_round
          case rel => exact ⟨k2 + 1, by omega, by go_num, by rw [hstep.out k2 hlt2]⟩
          case measure => simp [intOf]; omega
        · go_wp2
          go_loop [8, 9] (fun m i => ∃ k : Nat, k ≤ len ∧ i = .int .i64 k ∧ m = .bool (wn q zs k)) (fun _ i => len - (intOf i).toNat)
          case atStart => exact ⟨0, Nat.zero_le _, rfl, rfl⟩
          case round =>
            obtain ⟨k3, hk3, rfl, rfl⟩ := hrel
            by_cases hlt3 : k3 < len
            · have hcell := hc k3 hlt3
              have hs := hw.out k3 hlt3
              have Hs : Hid _ := hs; clear hs
              go_wp2
              all_goals
                go_round
                case rel =>
                  refine ⟨k3 + 1, by omega, by go_num, ?_⟩
                  rw [Hs.out]
                  first | exact st_yes1 _ _ _ ‹_› | exact st_yes2 _ _ _ ‹_› ‹_› | exact st_no1 _ _ _ ‹_› | exact st_no2 _ _ _ ‹_› ‹_›
                case measure => simp [intOf]; omega
            · have e2 : k2 = len := by omega
              have e3 : k3 = len := by omega
              subst e2
              subst e3
              have e4 : Hid _ := hfin.out hall.out
              go_wp2_with (go_at_call 6; refine (zlb _ _ hq).mono ?_; rintro e w' ⟨rfl, rfl⟩)
              go_ret
              exact ⟨ret_bool (by rw [e4.out]; simp), Below.refl _ _⟩

set_option maxHeartbeats 1000000 in
theorem walk_none (a : Option Addr) (cap : Nat) (q : Int) (w : World) (hq : 0 ≤ q) :
    Calls Try.prog 4 #[.slice a 0 cap, .int .i64 q] w fun e w' => e = .returned (.bool true) ∧ Below w.heap.size w w' := by
  have h3 : decide (q < 0) = false := decide_eq_false (by omega)
  have e4 : bits .and .u64 0 (lbit q) = 0 := by
    have h := law [] q (by simp) hq
    have e : wnt q [] = false := rfl
    rw [e] at h
    simpa [mskN] using h
  go_enter Try.func4, Try.ntmps4
  go_wp2_with (go_at_call 7; refine (bytes _ _ _ _ _ (by omega)).mono ?_; rintro e w' ⟨rfl, rfl⟩)
  go_loop [5] (fun i => i = .int .i64 0) (fun i => 0)
  case atStart => rfl
  case round =>
    subst hrel
    go_wp2
    go_loop [6, 7] (fun m i => i = .int .i64 0 ∧ m = .int .u64 0) (fun _ i => 0)
    case atStart => exact ⟨rfl, rfl⟩
    case round =>
      obtain ⟨rfl, rfl⟩ := hrel
      go_wp2
      go_loop [8, 9] (fun m i => i = .int .i64 0 ∧ m = .bool false) (fun _ i => 0)
      case atStart => exact ⟨rfl, rfl⟩
      case round =>
        obtain ⟨rfl, rfl⟩ := hrel
        go_wp2_with (go_at_call 6; refine (zlb _ _ hq).mono ?_; rintro e w' ⟨rfl, rfl⟩)
        go_ret
        exact ⟨rfl, Below.refl _ _⟩
set_option maxHeartbeats 1000000 in
theorem walk_out (a : Option Addr) (len cap : Nat) (q : Int) (w : World) (hl : len ≤ 9223372036854775807) (h : 65536 < len ∨ q < 0) :
    Calls Try.prog 4 #[.slice a len cap, .int .i64 q] w fun e w' => e = .returned (.bool true) ∧ Below w.heap.size w w' := by
  by_cases hb : len ≤ 1048576
  · have hb' : decide (len ≤ 1048576) = true := decide_eq_true hb
    by_cases h2 : 65536 < len
    · have h3 : (65536 : Int) < len := by omega
      go_enter Try.func4, Try.ntmps4
      go_wp2_with (go_at_call 7; refine (bytes _ _ _ _ _ hl).mono ?_; rintro e w' ⟨rfl, rfl⟩)
      go_ret
      exact ⟨rfl, Below.refl _ _⟩
    · have h3 : decide ((65536 : Int) < len) = false := decide_eq_false (by omega)
      have h4 : q < 0 := by omega
      go_enter Try.func4, Try.ntmps4
      go_wp2_with (go_at_call 7; refine (bytes _ _ _ _ _ hl).mono ?_; rintro e w' ⟨rfl, rfl⟩)
      go_ret
      exact ⟨rfl, Below.refl _ _⟩
  · have hb' : decide (len ≤ 1048576) = false := decide_eq_false hb
    go_enter Try.func4, Try.ntmps4
    go_wp2_with (go_at_call 7; refine (bytes _ _ _ _ _ hl).mono ?_; rintro e w' ⟨rfl, rfl⟩)
    go_ret
    exact ⟨rfl, Below.refl _ _⟩
end Go.Proofs.Qxb6612828a.Mask

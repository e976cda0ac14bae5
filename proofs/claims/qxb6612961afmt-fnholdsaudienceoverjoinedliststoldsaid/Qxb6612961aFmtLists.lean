/- Slices of strings read: zzHolds (function 7), slices.Index and slices.Contains at []string (functions 19, 15). -/
import Derived.Test.Qxb6612961aFmtRows
import Derived.WalkKit
import Derived.WalkSpells
import Derived.WalkLawsBesides
import Derived.ProofKit
import Derived.OpenShut
import Derived.Lib.SlicesS
import Derived.Below
namespace Go.Proofs.Qxb6612961aFmt.Held
open Go.RowKit

/-- The string at place k. -/
def sat (ss : List ByteArray) (k : Nat) : ByteArray := ss.getD k ByteArray.empty

/-- What the cells hold of a slice of strings whose address is 'o': no string, or they lie from a place of a row on. -/
def Strs (w : World) (o : Option Addr) (ss : List ByteArray) : Prop :=
  ∀ k, k < ss.length → ∃ b off, o = some ⟨b, off, none⟩ ∧ w.cell? ⟨b, off + k, none⟩ = some (.string (sat ss k))

/-- Whether x is among them. -/
def has (ss : List ByteArray) (x : ByteArray) : Bool := Lib.containsS ss x

theorem sat_mem (ss : List ByteArray) (k : Nat) (h : k < ss.length) : sat ss k ∈ ss := by
  rw [sat, List.getD_eq_getElem?_getD, List.getElem?_eq_getElem h]; exact List.getElem_mem h
theorem has_hit (ss : List ByteArray) (x : ByteArray) (k : Nat) (h : k < ss.length) (e : sat ss k = x) : has ss x = true := by
  rw [has, Lib.containsS_iff, ← e]; exact sat_mem ss k h
theorem has_miss (ss : List ByteArray) (x : ByteArray) (h : ∀ k, k < ss.length → sat ss k ≠ x) : has ss x = false := by
  rw [has, ← Bool.not_eq_true, Lib.containsS_iff]
  intro hm
  obtain ⟨i, hi, e⟩ := List.mem_iff_getElem.1 hm
  exact h i hi (by rw [sat, List.getD_eq_getElem?_getD, List.getElem?_eq_getElem hi]; exact e)

set_option maxHeartbeats 400000 in
theorem holds7 (o : Option Addr) (n cap : Nat) (ss : List ByteArray) (x : ByteArray) (w : World) (hn : n = ss.length) (hm : n ≤ 4194304) (hS : Strs w o ss) :
    Calls Tryf.prog 7 #[.slice o n cap, .string x] w fun e w' => e = .returned (.bool (has ss x)) ∧ w' = w := by
  have hS' : Hid (Strs w o ss) := hS
  clear hS
  go_enter Tryf.func7, Tryf.ntmps7
  go_wp2
  go_loop [5] (fun i => ∃ k : Nat, k ≤ n ∧ i = .int .i64 k ∧ ∀ j, j < k → sat ss j ≠ x) (fun i => n - (intOf i).toNat)
  case atStart => exact ⟨0, Nat.zero_le _, rfl, fun j h => by omega⟩
  case round =>
    obtain ⟨k, hk, rfl, hne⟩ := hrel
    have hne' : Hid (∀ j, j < k → sat ss j ≠ x) := hne
    clear hne
    by_cases hlt : k < n
    · obtain ⟨b, off, rfl, hcell⟩ := hS'.out k (by omega)
      by_cases he : sat ss k = x
      · have hb : ((sat ss k).toList == x.toList) = true := (Lib.bytes_beq_iff _ _).2 he
        have hh := has_hit ss x k (by omega) he
        have He : Hid (sat ss k = x) := he
        clear he
        go_wp2
        go_ret
        exact ⟨rfl, rfl⟩
      · have hb : ((sat ss k).toList == x.toList) = false := (Lib.bytes_beq_false_iff _ _).2 he
        have He : Hid (¬ sat ss k = x) := he
        clear he
        go_wp2
        go_round
        case rel => exact ⟨k + 1, by omega, by go_num, fun j hj => by
          by_cases e : j = k
          · subst e; exact He.out
          · exact hne'.out j (by omega)⟩
        case measure => simp [intOf]; omega
    · have hh := has_miss ss x (fun j hj => hne'.out j (by omega))
      go_wp2
      go_ret
      exact ⟨rfl, rfl⟩

set_option maxHeartbeats 400000 in
theorem index19 (o : Option Addr) (n cap : Nat) (ss : List ByteArray) (x : ByteArray) (w : World) (hn : n = ss.length) (hm : n ≤ 4194304) (hS : Strs w o ss) :
    Calls Tryf.prog 19 #[.slice o n cap, .string x] w fun e w' => (∃ r : Int, e = .returned (.int .i64 r) ∧ -1 ≤ r ∧ r ≤ 4194304 ∧ decide (0 ≤ r) = has ss x) ∧ w' = w := by
  have hS' : Hid (Strs w o ss) := hS
  clear hS
  go_enter Tryf.func19, Tryf.ntmps19
  go_wp2
  go_loop [8] (fun i => ∃ k : Nat, k ≤ n ∧ i = .int .i64 k ∧ ∀ j, j < k → sat ss j ≠ x) (fun i => n - (intOf i).toNat)
  case atStart => exact ⟨0, Nat.zero_le _, rfl, fun j h => by omega⟩
  case round =>
    obtain ⟨k, hk, rfl, hne⟩ := hrel
    have hne' : Hid (∀ j, j < k → sat ss j ≠ x) := hne
    clear hne
    by_cases hlt : k < n
    · obtain ⟨b, off, rfl, hcell⟩ := hS'.out k (by omega)
      by_cases he : sat ss k = x
      · have hb : (x.toList == (sat ss k).toList) = true := (Lib.bytes_beq_iff _ _).2 he.symm
        have hh : Hid (has ss x = true) := has_hit ss x k (by omega) he
        clear he
        go_wp2
        go_ret
        exact ⟨⟨k, rfl, by omega, by omega, by rw [hh.out]; simp⟩, rfl⟩
      · have hb : (x.toList == (sat ss k).toList) = false := (Lib.bytes_beq_false_iff _ _).2 (fun h => he h.symm)
        have He : Hid (¬ sat ss k = x) := he
        clear he
        go_wp2
        go_round
        case rel => exact ⟨k + 1, by omega, by go_num, fun j hj => by
          by_cases e : j = k
          · subst e; exact He.out
          · exact hne'.out j (by omega)⟩
        case measure => simp [intOf]; omega
    · have hh : Hid (has ss x = false) := has_miss ss x (fun j hj => hne'.out j (by omega))
      go_wp2
      go_ret
      exact ⟨⟨-1, rfl, by omega, by omega, by rw [hh.out]; simp⟩, rfl⟩

set_option maxHeartbeats 400000 in
theorem contains15 (o : Option Addr) (n cap : Nat) (ss : List ByteArray) (x : ByteArray) (w : World) (hn : n = ss.length) (hm : n ≤ 4194304) (hS : Strs w o ss) :
    Calls Tryf.prog 15 #[.slice o n cap, .string x] w fun e w' => e = .returned (.bool (has ss x)) ∧ w' = w := by
  subst hn
  have HS : Hid (Strs w o ss) := hS
  clear hS
  go_enter Tryf.func15, Tryf.ntmps15
  go_wp2_with fail
  refine (index19 o ss.length cap ss x w rfl hm HS.out).mono ?_
  rintro e w' ⟨⟨r, rfl, h1, h2, h3⟩, rfl⟩
  have H3 : Hid (decide (0 ≤ r) = has ss x) := h3
  clear h3
  go_wp2
  all_goals
    go_ret
    exact ⟨by rw [← H3.out]; rfl, rfl⟩

/-- What the bound on the lengths (function 5) leaves: a bool; where it is 'true', both slices have at most 2^20 elements. -/
def Bnd5 (n n' : Nat) (e : Ending) : Prop := ∃ r, e = .returned (.bool r) ∧ (r = true → n ≤ 1048576 ∧ n' ≤ 1048576)
set_option maxHeartbeats 1000000 in
theorem bytes5 (o o' : Option Addr) (n cap n' cap' : Nat) (ss ss' : List ByteArray) (x : ByteArray) (w : World) (hn : n = ss.length) (hn' : n' = ss'.length)
    (hm : n ≤ 9223372036854775807) (hm' : n' ≤ 9223372036854775807) (hS : Strs w o ss) (hS' : Strs w o' ss')
    (hl : ∀ k, k < ss.length → (sat ss k).size ≤ 9223372036854775807) (hl' : ∀ k, k < ss'.length → (sat ss' k).size ≤ 9223372036854775807) (hx : x.size ≤ 9223372036854775807) :
    Calls Tryf.prog 5 #[.slice o n cap, .slice o' n' cap', .string x] w fun e w' => Bnd5 n n' e ∧ w' = w := by
  have HS : Hid (Strs w o ss) := hS
  have HS' : Hid (Strs w o' ss') := hS'
  clear hS hS'
  by_cases h1 : n ≤ 1048576
  case neg =>
    have h1' : decide ((1048576 : Int) < n) = true := decide_eq_true (by omega)
    go_enter Tryf.func5, Tryf.ntmps5
    go_wp2
    go_ret
    exact ⟨⟨_, rfl, by simp⟩, rfl⟩
  have h1' : decide ((1048576 : Int) < n) = false := decide_eq_false (by omega)
  go_enter Tryf.func5, Tryf.ntmps5
  go_wp2
  go_loop [7, 8] (fun z i => ∃ (k : Nat) (t : Int), k ≤ n ∧ i = .int .i64 k ∧ z = .int .i64 t ∧ 0 ≤ t ∧ t ≤ 1048576) (fun _ i => n - (intOf i).toNat)
  case atStart => exact ⟨0, _, Nat.zero_le _, rfl, rfl, by omega, by omega⟩
  case round =>
    obtain ⟨k, t, hk, rfl, rfl, ht0, ht1⟩ := hrel
    by_cases hlt : k < n
    · obtain ⟨b, off, rfl, hcell⟩ := HS.out k (by omega)
      have hlk := hl k (by omega)
      by_cases hbig : (sat ss k).size ≤ 1048576
      · have hb1 : decide ((1048576 : Int) < (sat ss k).size) = false := decide_eq_false (by omega)
        by_cases hsum : t + (sat ss k).size ≤ 1048576
        · go_wp2
          go_round
          case rel => exact ⟨k + 1, _, by omega, by go_num, rfl, by omega, by omega⟩
          case measure => simp [intOf]; omega
        · go_wp2
          go_ret
          exact ⟨⟨_, rfl, by simp⟩, rfl⟩
      · have hb1 : decide ((1048576 : Int) < (sat ss k).size) = true := decide_eq_true (by omega)
        go_wp2
        go_ret
        exact ⟨⟨_, rfl, by simp⟩, rfl⟩
    · by_cases h2 : n' ≤ 1048576
      case neg =>
        have h2' : decide ((1048576 : Int) < n') = true := decide_eq_true (by omega)
        go_wp2
        go_ret
        exact ⟨⟨_, rfl, by simp⟩, rfl⟩
      have h2' : decide ((1048576 : Int) < n') = false := decide_eq_false (by omega)
      by_cases h3 : t + n' ≤ 1048576
      case neg =>
        go_wp2
        go_ret
        exact ⟨⟨_, rfl, by simp⟩, rfl⟩
      go_wp2
      go_loop [7, 9] (fun z i => ∃ (k : Nat) (t : Int), k ≤ n' ∧ i = .int .i64 k ∧ z = .int .i64 t ∧ 0 ≤ t ∧ t ≤ 1048576) (fun _ i => n' - (intOf i).toNat)
      case atStart => exact ⟨0, _, Nat.zero_le _, rfl, rfl, by omega, by omega⟩
      case round =>
        obtain ⟨k2, t2, hk2, rfl, rfl, ht20, ht21⟩ := hrel
        by_cases hlt2 : k2 < n'
        · obtain ⟨b, off, rfl, hcell⟩ := HS'.out k2 (by omega)
          have hlk := hl' k2 (by omega)
          by_cases hbig : (sat ss' k2).size ≤ 1048576
          · have hb1 : decide ((1048576 : Int) < (sat ss' k2).size) = false := decide_eq_false (by omega)
            by_cases hsum : t2 + (sat ss' k2).size ≤ 1048576
            · go_wp2
              go_round
              case rel => exact ⟨k2 + 1, _, by omega, by go_num, rfl, by omega, by omega⟩
              case measure => simp [intOf]; omega
            · go_wp2
              go_ret
              exact ⟨⟨_, rfl, by simp⟩, rfl⟩
          · have hb1 : decide ((1048576 : Int) < (sat ss' k2).size) = true := decide_eq_true (by omega)
            go_wp2
            go_ret
            exact ⟨⟨_, rfl, by simp⟩, rfl⟩
        · by_cases h4 : x.size ≤ 1048576
          case neg =>
            have h4' : decide ((1048576 : Int) < x.size) = true := decide_eq_true (by omega)
            go_wp2
            go_ret
            exact ⟨⟨_, rfl, by simp⟩, rfl⟩
          have h4' : decide ((1048576 : Int) < x.size) = false := decide_eq_false (by omega)
          by_cases h5 : t2 + x.size ≤ 1048576
          · go_wp2
            go_ret
            exact ⟨⟨_, rfl, fun _ => ⟨by omega, by omega⟩⟩, rfl⟩
          · go_wp2
            go_ret
            exact ⟨⟨_, rfl, by simp⟩, rfl⟩
end Go.Proofs.Qxb6612961aFmt.Held

/- The walk of 'FnHoldsAudienceOverJoinedLists' (function 3). -/
import Derived.Test.Qxb6612961aFmtAud
import Derived.Laws.CopyOwn
import Derived.Deep.Cut
namespace Go.Proofs.Qxb6612961aFmt.Held
open Go.RowKit

/-- A slice of strings as it lies in the world: nil, or its strings lie at its address. -/
def Lies (w : World) (n : Nat) (ss : List ByteArray) (v : Value) : Prop :=
  ∃ o c, v = .slice o n c ∧ (o = none → n = 0 ∧ c = 0) ∧ Strs w o ss ∧ ∀ ad, o = some ad → ad.block < w.heap.size

theorem Strs.below {w w' : World} {o : Option Addr} {ss : List ByteArray} (h : Strs w o ss) (hl : ∀ ad, o = some ad → ad.block < w.heap.size) (hb : Below w.heap.size w w') : Strs w' o ss := by
  intro k hk
  obtain ⟨b, off, rfl, hc⟩ := h k hk
  exact ⟨b, off, rfl, (hb.cell (p := ⟨b, off + k, none⟩) (hl ⟨b, off, none⟩ rfl)).trans hc⟩

theorem Lies.below {w w' : World} {n : Nat} {ss : List ByteArray} {v : Value} (h : Lies w n ss v) (hb : Below w.heap.size w w') : Lies w' n ss v := by
  obtain ⟨o, c, e, h1, h2, h3⟩ := h
  exact ⟨o, c, e, h1, h2.below h3 hb, fun ad e => Nat.lt_of_lt_of_le (h3 ad e) hb.size⟩

theorem has_append (ss ss' : List ByteArray) (x : ByteArray) : has (ss ++ ss') x = (has ss x || has ss' x) := by
  have h : has (ss ++ ss') x = true ↔ (has ss x || has ss' x) = true := by
    rw [Bool.or_eq_true]
    simp only [has, Lib.containsS_iff, List.mem_append]
  cases h1 : has (ss ++ ss') x <;> cases h2 : (has ss x || has ss' x) <;> simp_all

/-- The strings as the cells of a row. -/
def cellsOf (ss : List ByteArray) : List Value := ss.map Value.string

theorem cellsOf_at {w : World} {o : Option Addr} {ss : List ByteArray} (h : Strs w o ss) {ad : Addr} (e : o = some ad) : ∀ j u, (cellsOf ss)[j]? = some u → w.cell? (ad.add j) = some u := by
  intro j u hu
  have hj : j < ss.length := by
    have := (List.getElem?_eq_some_iff.1 hu).1
    simpa [cellsOf] using this
  obtain ⟨b, off, e2, hc⟩ := h j hj
  rw [e] at e2
  cases e2
  rw [Addr.add_lit, hc]
  simp [cellsOf, hj] at hu
  rw [← hu, sat]
  simp [hj]

theorem cellsOf_one (ss : List ByteArray) : ∀ u ∈ cellsOf ss, u.oneCell' = true := by
  intro u hu
  obtain ⟨s, _, rfl⟩ := List.mem_map.1 hu
  rfl

theorem cellsOf_get (ss : List ByteArray) (k : Nat) (h : k < ss.length) : (cellsOf ss)[k]? = some (.string (sat ss k)) := by
  simp [cellsOf, sat, h]

/-- A row that holds just the strings. -/
theorem Lies.row {w : World} {g n : Nat} {ss : List ByteArray} (t : TypeId) (hg : w.heap[g]? = some (.cells (cellsOf ss).toArray t (0, 0))) : Lies w n ss (.slice (some ⟨g, 0, none⟩) n n) := by
  refine ⟨_, n, rfl, (fun h => by cases h), fun k hk => ⟨g, 0, rfl, ?_⟩, fun ad e => ?_⟩
  · rw [Nat.zero_add, cell_of_row w g k _ t (0, 0) hg]
    simpa using cellsOf_get ss k hk
  · cases e
    exact (Array.getElem?_eq_some_iff.1 hg).1

theorem strs_cells {w w' : World} {ad : Addr} {n : Nat} {ss : List ByteArray} (h : Strs w (some ad) ss) (hn : n = ss.length) (hl : 0 < n → ad.block < w.heap.size) (hb : Below w.heap.size w w') :
    ∀ j u, (cellsOf ss)[j]? = some u → w'.cell? (ad.add j) = some u := by
  intro j u hu
  have hj : j < ss.length := by
    have := (List.getElem?_eq_some_iff.1 hu).1
    simpa [cellsOf] using this
  exact cellsOf_at (h.below (fun a e => by cases e; exact hl (by omega)) hb) rfl j u hu

theorem made_row {w : World} {base g n : Nat} {e : TypeId} {xs : List Value} (h : w.ownsRow base e 1 (.slice (some ⟨g, 0, none⟩) n n) n xs) :
    ∃ cur : List Value, cur.length = n ∧ w.heap[g]? = some (.cells cur.toArray e (0, 0)) := by
  rcases h.2 with ⟨h, _⟩ | ⟨g', cap, cur, h, _, hg, _, _, hcs, _⟩
  · cases h
  · cases h
    exact ⟨cur.toList, by simpa using hcs, by simpa using hg⟩

theorem splice_all (cur cs : List Value) (h : cur.length = cs.length) : splice cur 0 cs = cs := by
  simp [splice, h]

/-- The row that holds the one list and then the other. -/
theorem joined {w : World} {base g n1 n2 : Nat} {ss1 ss2 : List ByteArray} (hn1 : n1 = ss1.length) (hn2 : n2 = ss2.length)
    (h : w.ownsRow base 9 1 (.slice (some ⟨g, 0, none⟩) (n1 + n2) (n1 + n2)) (n1 + n2) (cellsOf ss1 ++ cellsOf ss2)) :
    Strs w (some ⟨g, 0, none⟩) (ss1 ++ ss2) ∧ g < w.heap.size := by
  refine ⟨fun k hk => ⟨g, 0, rfl, ?_⟩, (h.lt g rfl).2⟩
  rw [Nat.zero_add, h.cellAt k (by simp at hk; omega)]
  have e : cellsOf ss1 ++ cellsOf ss2 = cellsOf (ss1 ++ ss2) := by simp [cellsOf]
  rw [e]
  exact cellsOf_get _ k hk

set_option maxRecDepth 20000 in
set_option maxHeartbeats 2000000 in
theorem walk (o1 o2 : Option Addr) (n1 cap1 n2 cap2 : Nat) (ss1 ss2 : List ByteArray) (x : ByteArray) (w : World) (hn1 : n1 = ss1.length) (hn2 : n2 = ss2.length)
    (hm1 : n1 ≤ 9223372036854775807) (hm2 : n2 ≤ 9223372036854775807) (hS1 : Strs w o1 ss1) (hS2 : Strs w o2 ss2)
    (hz1 : o1 = none → n1 = 0 ∧ cap1 = 0) (hz2 : o2 = none → n2 = 0 ∧ cap2 = 0)
    (hb1 : ∀ ad, o1 = some ad → 0 < n1 → ad.block < w.heap.size) (hb2 : ∀ ad, o2 = some ad → 0 < n2 → ad.block < w.heap.size)
    (hl1 : ∀ k, k < ss1.length → (sat ss1 k).size ≤ 9223372036854775807) (hl2 : ∀ k, k < ss2.length → (sat ss2 k).size ≤ 9223372036854775807) (hx : x.size ≤ 9223372036854775807) :
    Calls Tryf.prog 3 #[.slice o1 n1 cap1, .slice o2 n2 cap2, .string x] w fun e w' => e = .returned (.bool true) ∧ Below w.heap.size w w' := by
  obtain ⟨i, hi, hz0, hi1, hi2⟩ := info_parts info9
  have HS1 : Hid (Strs w o1 ss1) := hS1
  have HS2 : Hid (Strs w o2 ss2) := hS2
  have HN1 : Hid (n1 = ss1.length) := hn1
  have HN2 : Hid (n2 = ss2.length) := hn2
  have HZ1 : Hid (o1 = none → n1 = 0 ∧ cap1 = 0) := hz1
  have HZ2 : Hid (o2 = none → n2 = 0 ∧ cap2 = 0) := hz2
  have HL1 : Hid (∀ k, k < ss1.length → (sat ss1 k).size ≤ 9223372036854775807) := hl1
  have HL2 : Hid (∀ k, k < ss2.length → (sat ss2 k).size ≤ 9223372036854775807) := hl2
  have HB1 : Hid (∀ ad, o1 = some ad → 0 < n1 → ad.block < w.heap.size) := hb1
  have HB2 : Hid (∀ ad, o2 = some ad → 0 < n2 → ad.block < w.heap.size) := hb2
  clear hS1 hS2 hn1 hn2 hz1 hz2 hl1 hl2 hb1 hb2
  go_enter Tryf.func3, Tryf.ntmps3
  go_wp2_with fail
  refine (bytes5 o1 o2 n1 cap1 n2 cap2 ss1 ss2 x w HN1.out HN2.out hm1 hm2 HS1.out HS2.out HL1.out HL2.out hx).mono ?_
  rintro e w' ⟨⟨r, rfl, hr⟩, rfl⟩
  cases r
  · go_wp2
    go_ret
    exact ⟨rfl, Below.refl _ _⟩
  obtain ⟨hk1, hk2⟩ := hr rfl
  clear hr
  by_cases hxl : x.size ≤ 1048576
  case neg =>
    have hxl' : decide ((1048576 : Int) < x.size) = true := decide_eq_true (by omega)
    go_wp2
    go_ret
    exact ⟨rfl, Below.refl _ _⟩
  have hxl' : decide ((1048576 : Int) < x.size) = false := decide_eq_false (by omega)
  go_upto_if 25 with fail
  go_cut [0] from 16 (fun v wx => Lies wx n1 ss1 v ∧ Below w'.heap.size w' wx)
  case first =>
    rcases o1 with _ | ad
    · go_wp2
      go_meet
      case rel => exact ⟨⟨none, _, rfl, fun _ => HZ1.out trivial, HS1.out, fun ad h => by cases h⟩, Below.refl _ _⟩
    · go_wp2_with (at_make; refine wpList_make_full _ rfl _ _ 22 rfl w'.heap.size 9 i (.string ByteArray.empty) 1 Tryf.underlying22 hi hz0 hi1 _ _ _ _ n1 rfl rfl (by omega) (by omega) ?b2 ?b3 ?b4 ?_)
      case b2 => rw [hi2]; omega
      case b3 => unfold maxLen; omega
      case b4 => exact Nat.le_refl _
      intro w1 ho hg
      obtain ⟨cur, hcl, hcur⟩ := made_row ho
      have HC : Hid (w1.heap[w'.heap.size]? = some (.cells cur.toArray 9 (0, 0))) := hcur
      have B1 : Hid (Below w'.heap.size w' w1) := (Below.refl _ _).grown hg (Nat.le_refl _) (fun k hk => by cases hk)
      clear ho hg hcur
      have hsz : (Tryf.prog.info? 9).map (·.size) = some 1 := by rw [hi]; simp [hi1]
      have HSZ : Hid ((Tryf.prog.info? 9).map (·.size) = some 1) := hsz
      clear hsz
      go_wp2_with (refine wpList_copy_splice rfl (.tmp 29) (.tmp 30) 22 22 rfl 9 Tryf.underlying22 HSZ.out _ _ _ _ _ _ rfl rfl w'.heap.size 0 cur 9 HC.out (cellsOf ss1) ?len ?pos ?fit (cellsOf_one ss1) w'.heap.size w' B1.out (Nat.le_refl _) ?_)
      case len => have := HN1.out; simp [cellsOf]; omega
      case pos => exact fun _ => strs_cells HS1.out HN1.out (HB1.out ad rfl) B1.out
      case fit => have := HN1.out; simp [cellsOf]; omega
      intro w2 hg2 B2
      have L2 : Hid (Lies w2 n1 ss1 (.slice (some ⟨w'.heap.size, 0, none⟩) n1 n1)) := by
        have h := hg2.out
        rw [splice_all cur (cellsOf ss1) (by have := HN1.out; simp [cellsOf]; omega)] at h
        exact Lies.row 9 h
      have HB : Hid (Below w'.heap.size w' w2) := B2
      clear hg2 B2
      go_wp2
      go_meet
      case rel => exact ⟨L2.out, HB.out⟩
  case rest =>
    obtain ⟨wz, hwz⟩ : ∃ wz, wz = wc := ⟨_, rfl⟩
    subst hwz
    obtain ⟨⟨p1, c1, rfl, hq1, hs1, hd1⟩, hB⟩ := hcut
    have HQ1 : Hid (p1 = none → n1 = 0 ∧ c1 = 0) := hq1
    have HT1 : Hid (Strs wz p1 ss1) := hs1
    have HD1 : Hid (∀ ad, p1 = some ad → ad.block < wz.heap.size) := hd1
    have HBc : Hid (Below w'.heap.size w' wz) := hB
    clear hq1 hs1 hd1 hB HZ1 HS1 HB1
    go_upto_if 34 with fail
    go_cut [1] from 16 (fun v wx => Lies wx n2 ss2 v ∧ Below wz.heap.size wz wx)
    case first =>
      rcases o2 with _ | ad
      · go_wp2
        go_meet
        case rel => exact ⟨⟨none, _, rfl, fun _ => HZ2.out trivial, fun k hk => absurd hk (by have := HN2.out; have := (HZ2.out trivial).1; omega), fun ad h => by cases h⟩, Below.refl _ _⟩
      · go_wp2_with (at_make; refine wpList_make_full _ rfl _ _ 22 rfl wz.heap.size 9 i (.string ByteArray.empty) 1 Tryf.underlying22 hi hz0 hi1 _ _ _ _ n2 rfl rfl (by omega) (by omega) ?b2 ?b3 ?b4 ?_)
        case b2 => rw [hi2]; omega
        case b3 => unfold maxLen; omega
        case b4 => exact Nat.le_refl _
        intro w1 ho hg
        obtain ⟨cur, hcl, hcur⟩ := made_row ho
        have HC : Hid (w1.heap[wz.heap.size]? = some (.cells cur.toArray 9 (0, 0))) := hcur
        have B1 : Hid (Below wz.heap.size wz w1) := (Below.refl _ _).grown hg (Nat.le_refl _) (fun k hk => by cases hk)
        have B1' : Hid (Below w'.heap.size w' w1) := HBc.out.trans (B1.out.mono HBc.out.size)
        clear ho hg hcur
        have hsz : (Tryf.prog.info? 9).map (·.size) = some 1 := by rw [hi]; simp [hi1]
        have HSZ : Hid ((Tryf.prog.info? 9).map (·.size) = some 1) := hsz
        clear hsz
        go_wp2_with (refine wpList_copy_splice rfl (.tmp 38) (.tmp 39) 22 22 rfl 9 Tryf.underlying22 HSZ.out _ _ _ _ _ _ rfl rfl wz.heap.size 0 cur 9 HC.out (cellsOf ss2) ?len ?pos ?fit (cellsOf_one ss2) wz.heap.size wz B1.out (Nat.le_refl _) ?_)
        case len => have := HN2.out; simp [cellsOf]; omega
        case pos => exact fun _ => strs_cells HS2.out HN2.out (HB2.out ad rfl) B1'.out
        case fit => have := HN2.out; simp [cellsOf]; omega
        intro w2 hg2 B2
        have L2 : Hid (Lies w2 n2 ss2 (.slice (some ⟨wz.heap.size, 0, none⟩) n2 n2)) := by
          have h := hg2.out
          rw [splice_all cur (cellsOf ss2) (by have := HN2.out; simp [cellsOf]; omega)] at h
          exact Lies.row 9 h
        have HB : Hid (Below wz.heap.size wz w2) := B2
        clear hg2 B2
        go_wp2
        go_meet
        case rel => exact ⟨L2.out, HB.out⟩
    case rest =>
      obtain ⟨⟨p2, c2, rfl, hq2, hs2, hd2⟩, hB⟩ := hcut
      have HQ2 : Hid (p2 = none → n2 = 0 ∧ c2 = 0) := hq2
      have HT2 : Hid (Strs wc p2 ss2) := hs2
      have HD2 : Hid (∀ ad, p2 = some ad → ad.block < wc.heap.size) := hd2
      have HT1' : Hid (Strs wc p1 ss1) := HT1.out.below HD1.out hB
      have HD1' : Hid (∀ ad, p1 = some ad → ad.block < wc.heap.size) := fun ad e => Nat.lt_of_lt_of_le (HD1.out ad e) hB.size
      have HBd : Hid (Below w'.heap.size w' wc) := HBc.out.trans (hB.mono HBc.out.size)
      clear hq2 hs2 hd2 hB HZ2 HS2 HB2 HT1 HD1 HBc
      go_wp2
      go_loop [9, 10] (fun z i => ∃ (k : Nat) (t : Int), k ≤ n1 ∧ i = .int .i64 k ∧ z = .int .i64 t ∧ 0 ≤ t ∧ t ≤ 1048576) (fun _ i => n1 - (intOf i).toNat)
      case atStart => exact ⟨0, _, Nat.zero_le _, rfl, rfl, by omega, by omega⟩
      case round =>
        obtain ⟨k, t, hk, rfl, rfl, ht0, ht1⟩ := hrel
        by_cases hlt : k < n1
        · obtain ⟨b, off, rfl, hcell⟩ := HT1'.out k (by have := HN1.out; omega)
          have hlk := HL1.out k (by have := HN1.out; omega)
          by_cases hbig : (sat ss1 k).size ≤ 1048576
          · have hbb : decide ((1048576 : Int) < (sat ss1 k).size) = false := decide_eq_false (by omega)
            by_cases hsum : t + (16 + (sat ss1 k).size) ≤ 1048576
            · go_wp2
              go_round
              case rel => exact ⟨k + 1, _, by omega, by go_num, rfl, by omega, by omega⟩
              case measure => simp [intOf]; omega
            · go_wp2
              go_ret
              exact ⟨rfl, HBd.out⟩
          · have hbb : decide ((1048576 : Int) < (sat ss1 k).size) = true := decide_eq_true (by omega)
            go_wp2
            go_ret
            exact ⟨rfl, HBd.out⟩
        · go_wp2
          go_loop [9, 11] (fun z i => ∃ (k : Nat) (t : Int), k ≤ n2 ∧ i = .int .i64 k ∧ z = .int .i64 t ∧ 0 ≤ t ∧ t ≤ 1048576) (fun _ i => n2 - (intOf i).toNat)
          case atStart => exact ⟨0, _, Nat.zero_le _, rfl, rfl, by omega, by omega⟩
          case round =>
            obtain ⟨k2, t2, hk2', rfl, rfl, ht20, ht21⟩ := hrel
            by_cases hlt2 : k2 < n2
            · obtain ⟨b, off, rfl, hcell⟩ := HT2.out k2 (by have := HN2.out; omega)
              have hlk := HL2.out k2 (by have := HN2.out; omega)
              by_cases hbig : (sat ss2 k2).size ≤ 1048576
              · have hbb : decide ((1048576 : Int) < (sat ss2 k2).size) = false := decide_eq_false (by omega)
                by_cases hsum : t2 + (16 + (sat ss2 k2).size) ≤ 1048576
                · go_wp2
                  go_round
                  case rel => exact ⟨k2 + 1, _, by omega, by go_num, rfl, by omega, by omega⟩
                  case measure => simp [intOf]; omega
                · go_wp2
                  go_ret
                  exact ⟨rfl, HBd.out⟩
              · have hbb : decide ((1048576 : Int) < (sat ss2 k2).size) = true := decide_eq_true (by omega)
                go_wp2
                go_ret
                exact ⟨rfl, HBd.out⟩
            · go_wp2_with (at_make; refine wpList_make_own _ rfl _ _ 22 rfl wc.heap.size 9 i (.string ByteArray.empty) 1 Tryf.underlying22 hi hz0 hi1 _ _ _ (n1 + n2) rfl rfl (by omega) ?b2 ?b3 ?b4 ?_)
              case b2 => omega
              case b3 => unfold maxLen; omega
              intro w1 ho1 hg1
              have HO1 : Hid (w1.ownsRow wc.heap.size 9 1 (.slice (some ⟨wc.heap.size, 0, none⟩) 0 (n1 + n2)) 0 []) := ho1
              have B1 : Hid (Below wc.heap.size wc w1) := (Below.refl _ _).grown hg1 (Nat.le_refl _) (fun k hk => by cases hk)
              clear ho1 hg1
              go_wp2_with (at_builtin; refine wpList_append_fits_any _ rfl (.tmp 94) (.tmp 95) 22 rfl wc.heap.size 9 i 1 Tryf.underlying22 hi hi1 wc.heap.size 0 (n1 + n2) [] rfl HO1.out p1 n1 c1 (cellsOf ss1) rfl ?len HQ1.out ?cells (cellsOf_one ss1) (by omega) ?_)
              case len => have := HN1.out; simp [cellsOf]; omega
              case cells => exact fun ad e => cellsOf_at (HT1'.out.below HD1'.out B1.out) e
              intro w2 ho2 hg2
              have ho2' : w2.ownsRow wc.heap.size 9 1 (.slice (some ⟨wc.heap.size, 0, none⟩) n1 (n1 + n2)) n1 (cellsOf ss1) := by simpa using ho2
              have HO2 : Hid (w2.ownsRow wc.heap.size 9 1 (.slice (some ⟨wc.heap.size, 0, none⟩) n1 (n1 + n2)) n1 (cellsOf ss1)) := ho2'
              have B2 : Hid (Below wc.heap.size wc w2) := B1.out.grown hg2 B1.out.size (fun k hk => by cases hk; exact Nat.le_refl _)
              clear ho2 ho2' hg2
              go_wp2_with (at_builtin; refine wpList_append_fits_any _ rfl (.tmp 97) (.tmp 98) 22 rfl wc.heap.size 9 i 1 Tryf.underlying22 hi hi1 wc.heap.size n1 (n1 + n2) (cellsOf ss1) rfl HO2.out p2 n2 c2 (cellsOf ss2) rfl ?len HQ2.out ?cells (cellsOf_one ss2) (by omega) ?_)
              case len => have := HN2.out; simp [cellsOf]; omega
              case cells => exact fun ad e => cellsOf_at (HT2.out.below HD2.out B2.out) e
              intro w3 ho3 hg3
              have hj := joined HN1.out HN2.out ho3
              have HJ : Hid (Strs w3 (some ⟨wc.heap.size, 0, none⟩) (ss1 ++ ss2)) := hj.1
              have HJ2 : Hid (∀ ad, some (⟨wc.heap.size, 0, none⟩ : Addr) = some ad → ad.block < w3.heap.size) := fun ad e => by cases e; exact hj.2
              have B3 : Hid (Below wc.heap.size wc w3) := B2.out.grown hg3 B2.out.size (fun k hk => by cases hk; exact Nat.le_refl _)
              have T1 : Hid (Strs w3 p1 ss1) := HT1'.out.below HD1'.out B3.out
              have T2 : Hid (Strs w3 p2 ss2) := HT2.out.below HD2.out B3.out
              have D1 : Hid (∀ ad, p1 = some ad → ad.block < w3.heap.size) := fun ad e => Nat.lt_of_lt_of_le (HD1'.out ad e) B3.out.size
              have D2 : Hid (∀ ad, p2 = some ad → ad.block < w3.heap.size) := fun ad e => Nat.lt_of_lt_of_le (HD2.out ad e) B3.out.size
              have B3' : Hid (Below w'.heap.size w' w3) := HBd.out.trans (B3.out.mono HBd.out.size)
              have HN3 : Hid (n1 + n2 = (ss1 ++ ss2).length) := by
                show n1 + n2 = (ss1 ++ ss2).length
                rw [List.length_append, ← HN1.out, ← HN2.out]
              clear ho3 hg3 hj HO1 HO2 B1 B2 HT1' HT2 HD1' HD2 B3 HBd
              go_wp2_with fail
              refine (zlist6 p1 n1 c1 ss1 x w3 HN1.out (by omega) T1.out D1.out).mono ?_
              rintro e4 w4 ⟨rfl, b4⟩
              have S1 : Hid (Strs w4 p1 ss1) := T1.out.below D1.out b4
              have S2 : Hid (Strs w4 p2 ss2) := T2.out.below D2.out b4
              have SJ : Hid (Strs w4 (some ⟨wc.heap.size, 0, none⟩) (ss1 ++ ss2)) := HJ.out.below HJ2.out b4
              have E1 : Hid (∀ ad, p1 = some ad → ad.block < w4.heap.size) := fun ad e => Nat.lt_of_lt_of_le (D1.out ad e) b4.size
              have E2 : Hid (∀ ad, p2 = some ad → ad.block < w4.heap.size) := fun ad e => Nat.lt_of_lt_of_le (D2.out ad e) b4.size
              have EJ : Hid (∀ ad, some (⟨wc.heap.size, 0, none⟩ : Addr) = some ad → ad.block < w4.heap.size) := fun ad e => Nat.lt_of_lt_of_le (HJ2.out ad e) b4.size
              have B4 : Hid (Below w'.heap.size w' w4) := B3'.out.trans (b4.mono B3'.out.size)
              clear b4 T1 T2 HJ D1 D2 HJ2 B3'
              go_wp2_with fail
              refine (zlist6 p2 n2 c2 ss2 x w4 HN2.out (by omega) S2.out E2.out).mono ?_
              rintro e5 w5 ⟨rfl, b5⟩
              have T1 : Hid (Strs w5 p1 ss1) := S1.out.below E1.out b5
              have T2 : Hid (Strs w5 p2 ss2) := S2.out.below E2.out b5
              have TJ : Hid (Strs w5 (some ⟨wc.heap.size, 0, none⟩) (ss1 ++ ss2)) := SJ.out.below EJ.out b5
              have D1 : Hid (∀ ad, p1 = some ad → ad.block < w5.heap.size) := fun ad e => Nat.lt_of_lt_of_le (E1.out ad e) b5.size
              have D2 : Hid (∀ ad, p2 = some ad → ad.block < w5.heap.size) := fun ad e => Nat.lt_of_lt_of_le (E2.out ad e) b5.size
              have DJ : Hid (∀ ad, some (⟨wc.heap.size, 0, none⟩ : Addr) = some ad → ad.block < w5.heap.size) := fun ad e => Nat.lt_of_lt_of_le (EJ.out ad e) b5.size
              have B5 : Hid (Below w'.heap.size w' w5) := B4.out.trans (b5.mono B4.out.size)
              clear b5 S1 S2 SJ E1 E2 EJ B4
              go_wp2_with fail
              refine (zlist6 (some ⟨wc.heap.size, 0, none⟩) (n1 + n2) (n1 + n2) (ss1 ++ ss2) x w5 HN3.out (by omega) TJ.out DJ.out).mono ?_
              rintro e6 w6 ⟨rfl, b6⟩
              have S1 : Hid (Strs w6 p1 ss1) := T1.out.below D1.out b6
              have S2 : Hid (Strs w6 p2 ss2) := T2.out.below D2.out b6
              have B6 : Hid (Below w'.heap.size w' w6) := B5.out.trans (b6.mono B5.out.size)
              clear b6 T1 T2 TJ D1 D2 DJ B5
              rw [has_append]
              obtain ⟨f1, hf1⟩ : ∃ f, has ss1 x = f := ⟨_, rfl⟩
              obtain ⟨f2, hf2⟩ : ∃ f, has ss2 x = f := ⟨_, rfl⟩
              rw [hf1, hf2]
              have F1 : Hid (has ss1 x = f1) := hf1
              have F2 : Hid (has ss2 x = f2) := hf2
              clear hf1 hf2
              cases f1 <;> cases f2
              all_goals
                go_wp2_with fail
                refine (holds7 p1 n1 c1 ss1 x w6 HN1.out (by omega) S1.out).mono ?_
                rintro e7 w7 ⟨rfl, h7⟩
                rw [h7, F1.out]
                clear h7
                go_wp2_with fail
                refine (holds7 p2 n2 c2 ss2 x w6 HN2.out (by omega) S2.out).mono ?_
                rintro e8 w8 ⟨rfl, h8⟩
                rw [h8, F2.out]
                clear h8
                go_wp2
                go_ret
                exact ⟨rfl, B6.out⟩
end Go.Proofs.Qxb6612961aFmt.Held

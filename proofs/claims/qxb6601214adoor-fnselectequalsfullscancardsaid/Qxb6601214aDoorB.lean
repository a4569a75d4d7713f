/- Seat b6601214aD: slices of slices of strings; zzBytesNested, zzBytes_FnSelectEqualsFullScan. -/
import Derived.Test.Qxb6601214aDoorA
namespace Go.Proofs.Qxb6601214aDoor
open Go.RowKit Go.PlainAid

/-- Row i: its slice value, its strings. -/
def rv (rs : List (Value × List ByteArray)) (i : Nat) : Value := (rs.getD i (.slice none 0 0, [])).1
def rr (rs : List (Value × List ByteArray)) (i : Nat) : List ByteArray := (rs.getD i (.slice none 0 0, [])).2

/-- The cells of a slice of one-cell values. -/
def Cells (w : World) (v : Value) (n : Nat) (f : Nat → Value) : Prop :=
  ∃ ao cap, v = .slice ao n cap ∧ n ≤ cap ∧ n ≤ 140737488355328 ∧ (0 < n → ∃ b off, ao = some ⟨b, off, none⟩ ∧ b < w.heap.size ∧ ∀ i, i < n → w.cell? ⟨b, off + i, none⟩ = some (f i))

theorem Strs.cells {w : World} {v : Value} {ss : List ByteArray} (h : Strs w v ss) : Cells w v ss.length (fun i => .string (sg ss i)) := by
  obtain ⟨ao, cap, rfl, hc, hn, h⟩ := h
  exact ⟨ao, cap, rfl, hc, hn, fun hp => h (List.length_pos_iff.1 hp)⟩

def Rws (w : World) (v : Value) (rs : List (Value × List ByteArray)) : Prop :=
  Cells w v rs.length (rv rs) ∧ ∀ i, i < rs.length → Strs w (rv rs i) (rr rs i)

def SmallR (rs : List (Value × List ByteArray)) : Prop := rs.length ≤ 1048576 ∧ ∀ i, i < rs.length → Small (rr rs i)

set_option maxHeartbeats 400000 in
theorem zzBytesNested_any (v : Value) (rs : List (Value × List ByteArray)) (w : World) (hS : Rws w v rs) (hl : ∀ i j, (sg (rr rs i) j).size ≤ maxLen) :
    Calls Tryd.prog 6 #[v, .int .i64 1048576] w fun e w' => ∃ r : Int, e = .returned (.int .i64 r) ∧ 0 ≤ r ∧ r ≤ 1048577 ∧ Hid (r ≤ 1048576 → SmallR rs) ∧ w' = w := by
  obtain ⟨⟨ao, cap, rfl, hcap, hn, hc⟩, hrows⟩ := hS
  generalize hlen : rs.length = n at *
  have HLen : Hid (rs.length = n) := hlen
  clear hlen
  by_cases hbig : n ≤ 1048576
  case neg =>
    go_enter Tryd.func6, Tryd.ntmps6
    go_wp2
    go_ret
    exact ⟨1048577, rfl, by omega, by omega, (fun h => by omega), rfl⟩
  have HC : Hid (0 < n → ∃ b off, ao = some ⟨b, off, none⟩ ∧ b < w.heap.size ∧ ∀ i, i < n → w.cell? ⟨b, off + i, none⟩ = some (rv rs i)) := hc
  have HR : Hid (∀ i, i < n → Strs w (rv rs i) (rr rs i)) := hrows
  have HL : Hid (∀ i j, (sg (rr rs i) j).size ≤ maxLen) := hl
  clear hc hl hrows
  go_enter Tryd.func6, Tryd.ntmps6
  go_wp2
  go_loop [5, 6] (fun t i => ∃ (k : Nat) (z : Int), k ≤ n ∧ i = .int .i64 k ∧ t = .int .i64 z ∧ 0 ≤ z ∧ z ≤ 1048576 ∧ Hid (∀ j, j < k → Small (rr rs j))) (fun _ i => n - (intOf i).toNat)
  case atStart => exact ⟨0, 0, Nat.zero_le _, rfl, rfl, by omega, by omega, fun j hj => by omega⟩
  case round =>
    obtain ⟨k, z, hk, rfl, rfl, hz0, hz1, hall⟩ := hrel
    by_cases hlt : k < n
    · obtain ⟨b, off, hao, hb, hcell0⟩ := HC.out (by omega)
      have hcell := hcell0 k hlt
      have hst : Hid (Strs w (rv rs k) (rr rs k)) := HR.out k hlt
      have hsz : Hid (∀ j, (sg (rr rs k) j).size ≤ maxLen) := HL.out k
      have hH : Hid (Small (rr rs k) → ∀ j, j < k + 1 → Small (rr rs j)) := fun h j hj => by
        rcases Nat.lt_or_ge j k with h' | h'
        · exact hall.out j h'
        · rw [show j = k by omega]; exact h
      clear hcell0 HC
      subst hao
      by_cases h1 : z + 24 ≤ 1048576
      · go_wp2_with (go_at_call 7; refine (zzBytes_any _ _ _ hst.out hsz.out).mono ?_; rintro e w' ⟨r, rfl, hr0, hr1, hr2, rfl⟩)
        · go_ret
          exact ⟨1048577, rfl, by omega, by omega, (fun h => by omega), rfl⟩
        · go_round
          case rel => exact ⟨k + 1, _, by omega, by go_num, rfl, by omega, by omega, hH.out (hr2.out (by omega))⟩
          case measure => simp [intOf]; omega
      · go_wp2
        go_ret
        exact ⟨1048577, rfl, by omega, by omega, (fun h => by omega), rfl⟩
    · go_wp2
      go_ret
      exact ⟨z, rfl, by omega, by omega, (fun h => ⟨by rw [HLen.out]; omega, fun i hi => hall.out i (by rw [HLen.out] at hi; omega)⟩), rfl⟩

theorem Strs.sized {w : World} {v : Value} {ss : List ByteArray} (h : Strs w v ss) : ∃ ao cap, v = .slice ao ss.length cap ∧ ss.length ≤ 140737488355328 ∧
    Hid (0 < ss.length → ∃ b off, ao = some ⟨b, off, none⟩ ∧ b < w.heap.size ∧ ∀ i, i < ss.length → w.cell? ⟨b, off + i, none⟩ = some (.string (sg ss i))) := by
  obtain ⟨ao, cap, rfl, _, hn, h⟩ := h
  exact ⟨ao, cap, rfl, hn, fun hp => h (List.length_pos_iff.1 hp)⟩

set_option maxHeartbeats 1000000 in
theorem zzFn_any (v u : Value) (rs : List (Value × List ByteArray)) (ss : List ByteArray) (w : World) (hR : Rws w v rs) (hS : Strs w u ss) (hl : ∀ i j, (sg (rr rs i) j).size ≤ maxLen) (hl2 : ∀ j, (sg ss j).size ≤ maxLen) :
    Calls Tryd.prog 5 #[v, u] w fun e w' => (e = .returned (.bool false) ∨ e = .returned (.bool true)) ∧ w' = w := by
  obtain ⟨⟨ao, cap, rfl, hcap, hn, hc⟩, hrows⟩ := hR
  obtain ⟨ao2, cap2, rfl, hm, HC2⟩ := hS.sized
  clear hS
  generalize rs.length = n at *
  generalize ss.length = m at *
  have HC : Hid (0 < n → ∃ b off, ao = some ⟨b, off, none⟩ ∧ b < w.heap.size ∧ ∀ i, i < n → w.cell? ⟨b, off + i, none⟩ = some (rv rs i)) := hc
  have HR : Hid (∀ i, i < n → Strs w (rv rs i) (rr rs i)) := hrows
  unfold maxLen at hl hl2
  have HL : Hid (∀ i j, (sg (rr rs i) j).size ≤ 2 ^ 63 - 1) := hl
  have HL2 : Hid (∀ j, (sg ss j).size ≤ 2 ^ 63 - 1) := hl2
  clear hc hl hrows hl2
  by_cases hbig : n ≤ 1048576
  case neg =>
    go_enter Tryd.func5, Tryd.ntmps5
    go_wp2
    go_ret
    exact ⟨Or.inl rfl, rfl⟩
  go_enter Tryd.func5, Tryd.ntmps5
  go_wp2
  go_loop [5, 6, 7] (fun t i _ => ∃ (k : Nat) (z : Int), k ≤ n ∧ i = .int .i64 k ∧ t = .int .i64 z ∧ 0 ≤ z ∧ z ≤ 1048576) (fun _ i _ => n - (intOf i).toNat)
  case atStart => exact ⟨0, n, Nat.zero_le _, rfl, rfl, by omega, by omega⟩
  case round =>
    obtain ⟨k, z, hk, rfl, rfl, hz0, hz1⟩ := hrel
    by_cases hlt : k < n
    · obtain ⟨b, off, hao, hb, hcell0⟩ := HC.out (by omega)
      have hcell := hcell0 k hlt
      obtain ⟨ao', cap', hv, hm', HC'⟩ := (HR.out k hlt).sized
      rw [hv] at hcell
      have HLk : Hid (∀ j, (sg (rr rs k) j).size ≤ 2 ^ 63 - 1) := HL.out k
      clear hcell0 HC HR HL hv
      generalize rr rs k = row at *
      generalize row.length = m' at *
      subst hao
      by_cases h1 : m' ≤ 1048576
      case neg =>
        go_wp2
        go_ret
        exact ⟨by first | exact Or.inl rfl | exact Or.inr rfl, rfl⟩
      by_cases h2 : z + m' ≤ 1048576
      case neg =>
        go_wp2
        go_ret
        exact ⟨by first | exact Or.inl rfl | exact Or.inr rfl, rfl⟩
      go_wp2
      go_loop [5, 7] (fun t i => ∃ (j : Nat) (y : Int), j ≤ m' ∧ i = .int .i64 j ∧ t = .int .i64 y ∧ 0 ≤ y ∧ y ≤ 1048576) (fun _ i => m' - (intOf i).toNat)
      case atStart => exact ⟨0, z + m', Nat.zero_le _, rfl, rfl, by omega, by omega⟩
      case round =>
        obtain ⟨j, y, hj, rfl, rfl, hy0, hy1⟩ := hrel
        by_cases hjlt : j < m'
        · obtain ⟨b', off', hao', hb', hcell0'⟩ := HC'.out (by omega)
          have hcell' := hcell0' j hjlt
          have hsz := HLk.out j
          clear hcell0' HC' HLk
          subst hao'
          generalize sg row j = s at *
          by_cases h3 : s.size ≤ 1048576
          case neg =>
            go_wp2
            go_ret
            exact ⟨by first | exact Or.inl rfl | exact Or.inr rfl, rfl⟩
          by_cases h4 : y + s.size ≤ 1048576
          case neg =>
            go_wp2
            go_ret
            exact ⟨by first | exact Or.inl rfl | exact Or.inr rfl, rfl⟩
          go_wp2
          go_round
          case rel => exact ⟨j + 1, _, by omega, by go_num, rfl, by omega, by omega⟩
          case measure => simp [intOf]; omega
        · go_wp2
          go_round
          case rel => exact ⟨k + 1, _, by omega, by go_num, rfl, by omega, by omega⟩
          case measure => simp [intOf]; omega
    · clear HC HR HL
      by_cases h1 : m ≤ 1048576
      case neg =>
        go_wp2
        go_ret
        exact ⟨by first | exact Or.inl rfl | exact Or.inr rfl, rfl⟩
      by_cases h2 : z + m ≤ 1048576
      case neg =>
        go_wp2
        go_ret
        exact ⟨by first | exact Or.inl rfl | exact Or.inr rfl, rfl⟩
      go_wp2
      go_loop [5, 8] (fun t i => ∃ (j : Nat) (y : Int), j ≤ m ∧ i = .int .i64 j ∧ t = .int .i64 y ∧ 0 ≤ y ∧ y ≤ 1048576) (fun _ i => m - (intOf i).toNat)
      case atStart => exact ⟨0, z + m, Nat.zero_le _, rfl, rfl, by omega, by omega⟩
      case round =>
        obtain ⟨j, y, hj, rfl, rfl, hy0, hy1⟩ := hrel
        by_cases hjlt : j < m
        · obtain ⟨b', off', hao', hb', hcell0'⟩ := HC2.out (by omega)
          have hcell' := hcell0' j hjlt
          have hsz := HL2.out j
          clear hcell0' HC2 HL2
          subst hao'
          generalize sg ss j = s at *
          by_cases h3 : s.size ≤ 1048576
          case neg =>
            go_wp2
            go_ret
            exact ⟨by first | exact Or.inl rfl | exact Or.inr rfl, rfl⟩
          by_cases h4 : y + s.size ≤ 1048576
          case neg =>
            go_wp2
            go_ret
            exact ⟨by first | exact Or.inl rfl | exact Or.inr rfl, rfl⟩
          go_wp2
          go_round
          case rel => exact ⟨j + 1, _, by omega, by go_num, rfl, by omega, by omega⟩
          case measure => simp [intOf]; omega
        · go_wp2
          go_ret
          exact ⟨by first | exact Or.inl rfl | exact Or.inr rfl, rfl⟩
end Go.Proofs.Qxb6601214aDoor

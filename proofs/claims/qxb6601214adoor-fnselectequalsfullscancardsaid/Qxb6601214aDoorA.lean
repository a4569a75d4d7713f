/- Seat b6601214aD: slices of strings that are read; zzBytes, zzBytesNested. -/
import Derived.Test.Qxb6601214aDoorProg
import Derived.WalkKit
import Derived.WalkSpells
import Derived.WalkLawsBesides
import Derived.PlainAid
import Derived.Handy
namespace Go.Proofs.Qxb6601214aDoor
open Go.RowKit Go.PlainAid

/-- Element i of a list of strings. -/
def sg (ss : List ByteArray) (i : Nat) : ByteArray := ss.getD i ByteArray.empty

/-- The value v is a slice whose elements are the strings ss, in memory that w holds. -/
def Strs (w : World) (v : Value) (ss : List ByteArray) : Prop :=
  ∃ ao cap, v = .slice ao ss.length cap ∧ ss.length ≤ cap ∧ ss.length ≤ 140737488355328 ∧
    (ss ≠ [] → ∃ b off, ao = some ⟨b, off, none⟩ ∧ b < w.heap.size ∧ ∀ i, i < ss.length → w.cell? ⟨b, off + i, none⟩ = some (.string (sg ss i)))

theorem Strs.form {w : World} {v : Value} {ss : List ByteArray} (h : Strs w v ss) :
    (ss = [] ∧ ∃ ao cap, v = .slice ao 0 cap) ∨
    (∃ b off cap, v = .slice (some ⟨b, off, none⟩) ss.length cap ∧ 0 < ss.length ∧ ss.length ≤ cap ∧ ss.length ≤ 140737488355328 ∧ b < w.heap.size ∧ ∀ i, i < ss.length → w.cell? ⟨b, off + i, none⟩ = some (.string (sg ss i))) := by
  obtain ⟨ao, cap, rfl, hc, hn, h⟩ := h
  cases hss : ss with
  | nil => exact Or.inl ⟨rfl, ao, cap, by simp⟩
  | cons x xs =>
    obtain ⟨b, off, rfl, hb, hcell⟩ := h (by rw [hss]; simp)
    rw [← hss]
    exact Or.inr ⟨b, off, cap, rfl, by rw [hss]; simp, hc, hn, hb, hcell⟩

theorem Strs.below {w w' : World} {v : Value} {ss : List ByteArray} (h : Strs w v ss) {B : Nat} (hb : Below B w w') (hB : w.heap.size ≤ B) : Strs w' v ss := by
  obtain ⟨ao, cap, rfl, hc, hn, h⟩ := h
  refine ⟨ao, cap, rfl, hc, hn, fun hne => ?_⟩
  obtain ⟨b, off, rfl, hlt, hcell⟩ := h hne
  exact ⟨b, off, rfl, Nat.lt_of_lt_of_le hlt hb.size, fun i hi => (hb.cell (p := ⟨b, off + i, none⟩) (by simp; omega)).trans (hcell i hi)⟩

/-- Not too many, none too long. -/
def Small (ss : List ByteArray) : Prop := ss.length ≤ 1048576 ∧ ∀ i, i < ss.length → (sg ss i).size ≤ 1048576

set_option maxHeartbeats 400000 in
theorem zzBytes_any (v : Value) (ss : List ByteArray) (w : World) (hS : Strs w v ss) (hl : ∀ i, (sg ss i).size ≤ maxLen) :
    Calls Tryd.prog 7 #[v, .int .i64 1048576] w fun e w' => ∃ r : Int, e = .returned (.int .i64 r) ∧ 0 ≤ r ∧ r ≤ 1048577 ∧ Hid (r ≤ 1048576 → Small ss) ∧ w' = w := by
  rcases hS.form with ⟨rfl, ao, cap, rfl⟩ | ⟨b, off, cap, rfl, hpos, hcap, hn, hb, hc⟩
  · go_enter Tryd.func7, Tryd.ntmps7
    go_wp2
    go_rounds 1
    go_ret
    exact ⟨0, rfl, by omega, by omega, (fun _ => ⟨by simp, fun i hi => by simp at hi⟩), rfl⟩
  · unfold maxLen at hl
    generalize hlen : ss.length = n at *
    have HLen : Hid (ss.length = n) := hlen
    clear hlen hS
    by_cases hbig : n ≤ 1048576
    case neg =>
      go_enter Tryd.func7, Tryd.ntmps7
      go_wp2
      go_ret
      exact ⟨1048577, rfl, by omega, by omega, (fun h => by omega), rfl⟩
    have HC : Hid (∀ i, i < n → w.cell? ⟨b, off + i, none⟩ = some (.string (sg ss i))) := hc
    have HL : Hid (∀ i, (sg ss i).size ≤ 2 ^ 63 - 1) := hl
    clear hc hl
    go_enter Tryd.func7, Tryd.ntmps7
    go_wp2
    go_loop [5, 6] (fun t i => ∃ (k : Nat) (z : Int), k ≤ n ∧ i = .int .i64 k ∧ t = .int .i64 z ∧ 0 ≤ z ∧ z ≤ 1048576 ∧ Hid (∀ j, j < k → (sg ss j).size ≤ 1048576)) (fun _ i => n - (intOf i).toNat)
    case atStart => exact ⟨0, 0, Nat.zero_le _, rfl, rfl, by omega, by omega, fun j hj => by omega⟩
    case round =>
      obtain ⟨k, z, hk, rfl, rfl, hz0, hz1, hall⟩ := hrel
      by_cases hlt : k < n
      · have hcell := HC.out k hlt
        have hsz := HL.out k
        have hH : (sg ss k).size ≤ 1048576 → Hid (∀ j, j < k + 1 → (sg ss j).size ≤ 1048576) := fun h j hj => by
          rcases Nat.lt_or_ge j k with h' | h'
          · exact hall.out j h'
          · rw [show j = k by omega]; exact h
        generalize sg ss k = s at *
        by_cases h1 : s.size ≤ 1048576
        · by_cases h2 : z + (16 + (s.size : Int)) ≤ 1048576
          · go_wp2
            go_round
            case rel => exact ⟨k + 1, _, by omega, by go_num, rfl, by omega, by omega, hH h1⟩
            case measure => simp [intOf]; omega
          · go_wp2
            go_ret
            exact ⟨1048577, rfl, by omega, by omega, (fun h => by omega), rfl⟩
        · go_wp2
          go_ret
          exact ⟨1048577, rfl, by omega, by omega, (fun h => by omega), rfl⟩
      · go_wp2
        go_ret
        exact ⟨z, rfl, by omega, by omega, (fun h => ⟨by rw [HLen.out]; omega, fun i hi => hall.out i (by rw [HLen.out] at hi; omega)⟩), rfl⟩
end Go.Proofs.Qxb6601214aDoor

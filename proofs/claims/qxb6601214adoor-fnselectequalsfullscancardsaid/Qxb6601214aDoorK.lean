/- Seat b6601214aD: the sort, the search and the compaction inside Select. -/
import Derived.Test.Qxb6601214aDoorJ
import Derived.Sort.OwnSortedInts
namespace Go.Proofs.Qxb6601214aDoor
open Go.RowKit Go.PlainAid Go.Sort Go.Shelf

theorem Tryd.info3 : (Tryd.prog.info? 3).map (fun i => (i.zero, i.size, i.bytes)) = some (some (.int .i64 0), 1, 8) := by kernel_rfl

set_option maxHeartbeats 400000 in
theorem insertion_none (p : Option Addr) (cap : Nat) (w : World) : Calls Tryd.prog 48 #[.slice p 0 cap, .int .i64 0, .int .i64 0] w fun e w' => e = .returned (.tuple #[]) ∧ w' = w := by
  go_enter Tryd.func48, Tryd.ntmps48
  go_wp2
  refine wp_loop_rounds 1 ?_
  rw [rounds_succ]
  go_wp2
  go_end0
  exact ⟨rfl, rfl⟩

set_option maxHeartbeats 400000 in
set_option maxRecDepth 100000 in
theorem pdq_none (p : Option Addr) (cap : Nat) (x : Int) (w : World) : Calls Tryd.prog 36 #[.slice p 0 cap, .int .i64 0, .int .i64 0, .int .i64 x] w fun e w' => e = .returned (.tuple #[]) ∧ w' = w := by
  go_enter Tryd.func36, Tryd.ntmps36
  go_wp2
  refine wp_loop_rounds 1 ?_
  rw [rounds_succ]
  go_wp2_with (go_at_call 48; refine (insertion_none p cap _).mono ?_; rintro e w' ⟨rfl, rfl⟩)
  (try simp only [Exit.inBlock, Exit.then]); refine bodyPost_ret (results_none rfl _ _ _) rfl ?_
  exact ⟨rfl, rfl⟩

set_option maxHeartbeats 1000000 in
set_option maxRecDepth 100000 in
theorem sort_none (p : Option Addr) (cap : Nat) (w : World) : Calls Tryd.prog 22 #[.slice p 0 cap] w fun e w' => e = .returned (.tuple #[]) ∧ w' = w := by
  go_enter Tryd.func22, Tryd.ntmps22
  go_wp2_with (first
    | (go_at_call 36; refine (pdq_none p cap _ _).mono ?_; rintro e w' ⟨rfl, rfl⟩)
    | go_in)
  go_end0
  exact ⟨rfl, rfl⟩

theorem own_holds {w : World} {B g n cap : Nat} {L : List Int} (hn : n = L.length) (h : w.ownsRow B 3 1 (.slice (some ⟨g, 0, none⟩) n cap) n (L.map (Value.int .i64))) : Holds (Value.int .i64) w g 0 L.toArray := by
  intro j hj
  have hj' : j < L.length := by simpa using hj
  refine ⟨?_, by rw [Nat.zero_add]; exact h.frozenAt j⟩
  rw [Nat.zero_add, h.cellAt j (by omega)]
  simp [hj']

/-- slices.Sort on a row of the call's own. -/
theorem sort_calls (v : Value) (B n : Nat) (L : List Int) (w : World) (hn : n = L.length) (hB : B ≤ w.heap.size) (hl : L.length ≤ 1099511627776) (hown : w.ownsRow B 3 1 v n (L.map (Value.int .i64))) :
    Calls Tryd.prog 22 #[v] w fun e w' => e = .returned (.tuple #[]) ∧ Hid (w'.ownsRow B 3 1 v n ((L.mergeSort fun x y => decide (x ≤ y)).map (Value.int .i64))) ∧ Below B w w' := by
  rcases hown.2 with ⟨rfl, h0⟩ | ⟨g, cap, cur, rfl, hb, hg, hnc, hcm, hcs, htk⟩
  · subst h0
    obtain rfl : L = [] := List.length_eq_zero_iff.1 hn.symm
    refine (sort_none none 0 w).mono ?_
    rintro e w' ⟨rfl, rfl⟩
    exact ⟨rfl, by rw [List.mergeSort_nil]; exact World.ownsRow_nil _ _ _ _, Below.refl _ _⟩
  · subst hn
    refine (Tryd.slices_Sort_int g 0 cap L w (own_holds rfl hown) (lt_of_heap hg) (by omega)).mono ?_
    rintro e w' ⟨rfl, q, os, rfl⟩
    refine ⟨rfl, ?_, (Below.refl _ _).grown (grownBy_sortedI _) hB (fun k hk => by cases hk; exact hb)⟩
    exact ownsRow_sortedI (List.length_mergeSort _) hb hg hnc hcm hcs

theorem compact_len (M : List Int) : (Lib.compact M).length ≤ M.length := by
  unfold Lib.compact Lib.compactUpTo
  rw [List.length_map]
  exact Nat.le_trans (List.length_filter_le _ _) (by simp)

/-- slices.Compact on a row of the call's own. -/
theorem compact_calls (v : Value) (B n : Nat) (M : List Int) (w : World) (hn : n = M.length) (hB : B ≤ w.heap.size) (hl : M.length ≤ 1099511627776) (hown : w.ownsRow B 3 1 v n (M.map (Value.int .i64))) :
    Calls Tryd.prog 23 #[v] w fun e w' => ∃ v', e = .returned v' ∧ Hid (Cells w' v' (Lib.compact M).length (fun i => .int .i64 ((Lib.compact M).getD i 0)) ∧ (∀ g, v.ownBlock ≠ some g → w'.heap[g]? = w.heap[g]?) ∧ ∀ a l c, v' = .slice (some a) l c → v.ownBlock = some a.block) ∧ Below B w w' := by
  rcases hown.2 with ⟨rfl, h0⟩ | ⟨g, cap, cur, rfl, hb, hg, hnc, hcm, hcs, htk⟩
  · subst h0
    obtain rfl : M = [] := List.length_eq_zero_iff.1 hn.symm
    refine (Tryd.slices_Compact_int_empty none 0 w).mono ?_
    rintro e w' ⟨rfl, rfl⟩
    exact ⟨_, rfl, ⟨⟨none, 0, rfl, Nat.le_refl _, Nat.zero_le _, fun h => absurd h (by simp [Lib.compact, Lib.compactUpTo])⟩, fun _ _ => rfl, fun a l c h => by cases h⟩, Below.refl _ _⟩
  · subst hn
    have hH := own_holds rfl hown
    refine (Tryd.slices_Compact_int g 0 cap M w hH (by omega) hnc).mono ?_
    rintro e w' ⟨rfl, q, rfl⟩
    have hcl := compact_len M
    refine ⟨_, rfl, ⟨⟨_, _, rfl, by omega, by omega, fun hp => ⟨g, 0, rfl, by simp; exact lt_of_heap hg, fun i hi => ?_⟩⟩, fun k hk => ?_, fun a l c h => by cases h; rfl⟩, ?_⟩
    · rw [cell?_putRow (Value.int .i64) (Sort.ahead w q) g 0 M.toArray _ (holds_ahead _ _ q _ _ _ hH) (by simp; omega) i (by simp; omega)]
      congr 2
      rw [getElem!_pos _ i (by simp; omega)]
      have h2 : (Lib.compact M ++ List.replicate (M.length - (Lib.compact M).length) (0 : Int))[i]? = some ((Lib.compact M).getD i 0) := by
        rw [List.getElem?_append_left hi, List.getD_eq_getElem?_getD, List.getElem?_eq_getElem hi]; rfl
      exact Option.some.inj ((List.getElem?_eq_getElem (by simp; omega)).symm.trans h2)
    · exact heap_putRow_other _ _ _ _ _ _ (fun e => hk (by rw [e]; rfl))
    · exact below_putRow (Below.refl _ _) q _ _ hb _

/-- The place that slices.BinarySearch gives. -/
def bs (ss : List ByteArray) (x : ByteArray) : Nat := Lib.bsGo (fun t => Op.bytesLess (sg ss t).toList x.toList) ss.length 0 ss.length
theorem bsGo_le (less : Nat → Bool) : ∀ (f lo hi : Nat), lo ≤ hi → Lib.bsGo less f lo hi ≤ hi
  | 0, lo, hi, h => h
  | f + 1, lo, hi, h => by
    unfold Lib.bsGo
    by_cases h1 : lo < hi
    · rw [if_pos h1]
      by_cases h2 : less ((lo + hi) / 2) = true
      · rw [if_pos h2]; exact bsGo_le less f _ _ (by omega)
      · rw [if_neg h2]; exact Nat.le_trans (bsGo_le less f _ _ (by omega)) (by omega)
    · rw [if_neg h1]; exact h
theorem bs_le (ss : List ByteArray) (x : ByteArray) : bs ss x ≤ ss.length := bsGo_le _ _ _ _ (Nat.zero_le _)

theorem bs_calls (v : Value) (ss : List ByteArray) (x : ByteArray) (w : World) (hS : Strs w v ss) :
    Calls Tryd.prog 21 #[v, .string x] w fun e w' => ∃ b : Value, e = .returned (.tuple #[.int .i64 (bs ss x : Nat), b]) ∧ Below w.heap.size w w' := by
  rcases hS.form with ⟨rfl, ao, cap, rfl⟩ | ⟨b, off, cap, rfl, hpos, hcap, hn, hb, hc⟩
  · refine (Tryd.slices_BinarySearch_string_empty ao cap x w).mono ?_
    rintro e w' ⟨rfl, rfl⟩
    exact ⟨_, rfl, Below.refl _ _⟩
  · refine (Tryd.slices_BinarySearch_string b off ss.length cap (sg ss) x w (by omega) hc).mono ?_
    rintro e w' ⟨rfl, q, rfl⟩
    exact ⟨_, rfl, below_drewN (Below.refl _ _) q⟩
end Go.Proofs.Qxb6601214aDoor

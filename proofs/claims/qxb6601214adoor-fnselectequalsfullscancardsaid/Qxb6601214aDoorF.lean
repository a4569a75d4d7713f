/- Seat b6601214aD: ZZPattern, zzSet. -/
import Derived.Test.Qxb6601214aDoorE
namespace Go.Proofs.Qxb6601214aDoor
open Go.RowKit Go.PlainAid

theorem Tryd.info38 : (Tryd.prog.info? 38).map (fun i => (i.zero, i.size, i.bytes)) = some (some (.agg #[.slice none 0 0]), 1, 24) := by kernel_rfl

set_option maxHeartbeats 400000 in
theorem zzPattern_any (ao : Option Addr) (n c : Nat) (w : World) :
    Calls Tryd.prog 19 #[.slice ao n c] w fun e w' => e = .returned (.agg #[.slice ao n c]) ∧ Below w.heap.size w w' := by
  go_enter Tryd.func19, Tryd.ntmps19
  go_wp2
  exact bodyPost_ret (v := .agg #[.slice ao n c]) (by simp [results, Tryd.results19, go_sem]) rfl ⟨rfl, (Below.refl _ _).alloc (Nat.le_refl _) _⟩

theorem Cells.below {w w' : World} {v : Value} {n : Nat} {f : Nat → Value} (h : Cells w v n f) {B : Nat} (hb : Below B w w') (hB : w.heap.size ≤ B) : Cells w' v n f := by
  obtain ⟨ao, cap, rfl, hc, hn, h⟩ := h
  refine ⟨ao, cap, rfl, hc, hn, fun hne => ?_⟩
  obtain ⟨b, off, rfl, hlt, hcell⟩ := h hne
  exact ⟨b, off, rfl, Nat.lt_of_lt_of_le hlt hb.size, fun i hi => (hb.cell (p := ⟨b, off + i, none⟩) (by simp; omega)).trans (hcell i hi)⟩

theorem own_below {w w' : World} {B g n cap : Nat} {e : TypeId} {sz : Nat} {xs : List Value} (h : w.ownsRow B e sz (.slice (some ⟨g, 0, none⟩) n cap) n xs) (hb : Below w.heap.size w w') : w'.ownsRow B e sz (.slice (some ⟨g, 0, none⟩) n cap) n xs := by
  rcases h.2 with ⟨h', _⟩ | ⟨g', cap', cur, h', hb', hg, hnc, hcm, hcs, htk⟩
  · simp at h'
  · simp only [Value.slice.injEq, Option.some.injEq, Addr.mk.injEq, and_true, true_and] at h'
    obtain ⟨rfl, rfl⟩ := h'
    exact ⟨h.1, Or.inr ⟨_, _, cur, rfl, hb', by rw [hb.block _ (lt_of_heap hg)]; exact hg, hnc, hcm, hcs, htk⟩⟩

set_option maxHeartbeats 400000 in
set_option maxRecDepth 100000 in
theorem zzSet_any (v : Value) (n : Nat) (f : Nat → Value) (w : World) (hS : Cells w v n f) (hsl : ∀ i, i < n → ∃ ao l c, f i = .slice ao l c) (hsm : n ≤ 1048576) :
    Calls Tryd.prog 13 #[v] w fun e w' => ∃ v', e = .returned v' ∧ Hid (Cells w' v' n f) ∧ Below w.heap.size w w' := by
  obtain ⟨i0, hi, hz0, hz1, hz2⟩ := info_parts Tryd.info38
  obtain ⟨ao, cap, rfl, hcap, hn, hc⟩ := hS
  have HC : Hid (0 < n → ∃ b off, ao = some ⟨b, off, none⟩ ∧ b < w.heap.size ∧ ∀ i, i < n → w.cell? ⟨b, off + i, none⟩ = some (f i)) := hc
  have HSL : Hid (∀ i, i < n → ∃ ao l c, f i = .slice ao l c) := hsl
  clear hc hsl
  go_enter Tryd.func13, Tryd.ntmps13
  go_wp2_with (at_make; refine wpList_make_full _ rfl _ _ 33 rfl w.heap.size 38 i0 (.agg #[.slice none 0 0]) 1 Tryd.underlying33 hi hz0 hz1 _ _ _ _ n rfl rfl rfl rfl (by rw [hz2]; omega) (by unfold maxLen; omega) (Nat.le_refl _) ?_; intro w1 hown1 hg1)
  have hb1 : Below w.heap.size w w1 := (Below.refl _ _).grown hg1 (Nat.le_refl _) (by intro k hk; cases hk)
  rw [show (madeCells (Value.agg #[Value.slice none 0 0]).cells (n * 1)).toList = filled f (.slice none 0 0) 0 n from by rw [Nat.mul_one, filled_zero]; exact toList_madeCells_one _ n] at hown1
  clear hg1
  go_loopw [4] (fun i wr => ∃ (k : Nat), k ≤ n ∧ i = .int .i64 k ∧ wr.ownsRow w.heap.size 38 1 (.slice (some ⟨w.heap.size, 0, none⟩) n n) n (filled f (.slice none 0 0) k n) ∧ Below w.heap.size w wr) (fun i _ => n - (intOf i).toNat)
  case atStart => exact ⟨0, Nat.zero_le _, rfl, hown1, hb1⟩
  case round =>
    clear hown1 hb1
    obtain ⟨k, hk, rfl, hown, hbel⟩ := hrel
    by_cases hlt : k < n
    · obtain ⟨b, off, hao, hb, hcell0⟩ := HC.out (by omega)
      have hcell : wr.cell? ⟨b, off + k, none⟩ = some (f k) := (hbel.cell (p := ⟨b, off + k, none⟩) hb).trans (hcell0 k hlt)
      obtain ⟨a3, l3, c3, h3⟩ := HSL.out k hlt
      have hset := filled_set f (.slice none 0 0) k n hlt
      rw [h3] at hcell hset
      clear hcell0 HC HSL h3
      subst hao
      go_wp2_with fail
      refine (zzPattern_any _ _ _ _).mono ?_
      rintro e w2 ⟨rfl, hb2⟩
      have hown2 := own_below hown hb2
      obtain ⟨u, hu⟩ := filled_some f (.slice none 0 0) k n k hlt
      have hc2 : w2.cell? ⟨w.heap.size, k, none⟩ = some u := by rw [hown2.cellAt k (by omega)]; exact hu
      have hf2 := hown2.frozenAt k
      have hst := hown2.stored k (.slice a3 l3 c3)
      rw [hset] at hst
      have hbel2 : Below w.heap.size w (w2.setCell ⟨w.heap.size, k, none⟩ (.slice a3 l3 c3)) := (hbel.trans (hb2.mono hbel.size)).setCell (Nat.le_refl _) _
      clear hown hown2 hu hset
      go_wp2
      go_roundw
      case rel => exact ⟨k + 1, by omega, by go_num, hst.1, hbel2⟩
      case measure => simp [intOf]; omega
    · obtain rfl : k = n := by omega
      have hc := cells_of_own hown (fun i hi => filled_get f (.slice none 0 0) k i hi) (by omega)
      have hfin : Hid (Cells wr (.slice (some ⟨w.heap.size, 0, none⟩) k k) k f) := hc.1
      clear hown hc
      go_wp2
      go_ret
      exact ⟨_, rfl, hfin, hbel⟩
end Go.Proofs.Qxb6601214aDoor

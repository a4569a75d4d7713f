/- Seat b6601214aD: zzClone, zzCloneNested. -/
import Derived.Test.Qxb6601214aDoorD
import Derived.Laws.OwnMore
import Derived.Lib.SliceRun
namespace Go.Proofs.Qxb6601214aDoor
open Go.RowKit Go.PlainAid

theorem Tryd.info9 : (Tryd.prog.info? 9).map (fun i => (i.zero, i.size, i.bytes)) = some (some (.string ⟨#[]⟩), 1, 16) := by kernel_rfl
theorem Tryd.info23 : (Tryd.prog.info? 23).map (fun i => (i.zero, i.size, i.bytes)) = some (some (.slice none 0 0), 1, 24) := by kernel_rfl

/-- The slice lies at or behind block 'lo' (or is nil). -/
def From (lo : Nat) (v : Value) : Prop := ∀ a n c, v = .slice (some a) n c → lo ≤ a.block

theorem lt_of_heap {w : World} {g : Nat} {o : Obj} (h : w.heap[g]? = some o) : g < w.heap.size := by
  rcases Nat.lt_or_ge g w.heap.size with h' | h'
  · exact h'
  · simp [Array.getElem?_eq_none h'] at h

theorem cells_of_own {w : World} {B g n cap : Nat} {e : TypeId} {xs : List Value} {f : Nat → Value} (h : w.ownsRow B e 1 (.slice (some ⟨g, 0, none⟩) n cap) n xs) (hx : ∀ i, i < n → xs[i]? = some (f i)) (hn : n ≤ 140737488355328) :
    Cells w (.slice (some ⟨g, 0, none⟩) n cap) n f ∧ B ≤ g ∧ g < w.heap.size := by
  rcases h.2 with ⟨h', _⟩ | ⟨g', cap', cur, h', hb, hg, hnc, _⟩
  · simp at h'
  · simp only [Value.slice.injEq, Option.some.injEq, Addr.mk.injEq, and_true, true_and] at h'
    obtain ⟨rfl, rfl⟩ := h'
    exact ⟨⟨_, _, rfl, hnc, hn, fun _ => ⟨g, 0, rfl, lt_of_heap hg, fun i hi => by rw [Nat.zero_add, h.cellAt i (by omega)]; exact hx i hi⟩⟩, hb, lt_of_heap hg⟩

theorem Cells.strs {w : World} {v : Value} {ss : List ByteArray} (h : Cells w v ss.length (fun i => .string (sg ss i))) : Strs w v ss := by
  obtain ⟨ao, cap, rfl, hc, hn, h⟩ := h
  exact ⟨ao, cap, rfl, hc, hn, fun hne => h (List.length_pos_iff.2 hne)⟩

/-- The cells while a slice of n is filled from its head: k values, then zeros. -/
def filled (f : Nat → Value) (z : Value) (k n : Nat) : List Value := (List.range n).map fun i => if i < k then f i else z
theorem filled_zero (f : Nat → Value) (z : Value) (n : Nat) : filled f z 0 n = List.replicate n z := by
  simp [filled, List.map_const']
theorem filled_set (f : Nat → Value) (z : Value) (k n : Nat) (h : k < n) : (filled f z k n).set k (f k) = filled f z (k + 1) n := by
  apply List.ext_getElem?
  intro j
  rw [List.getElem?_set]
  by_cases hj : k = j
  · subst hj
    simp [filled, h]
  · rw [if_neg hj]
    simp only [filled, List.getElem?_map]
    by_cases hjn : j < n
    · rw [List.getElem?_range hjn]
      simp only [Option.map_some, Option.some.injEq]
      by_cases h1 : j < k
      · rw [if_pos h1, if_pos (by omega)]
      · rw [if_neg h1, if_neg (by omega)]
    · rw [List.getElem?_eq_none (by simp; omega)]; rfl
theorem filled_get (f : Nat → Value) (z : Value) (n i : Nat) (h : i < n) : (filled f z n n)[i]? = some (f i) := by
  simp [filled, h]
theorem filled_some (f : Nat → Value) (z : Value) (k n i : Nat) (h : i < n) : ∃ u, (filled f z k n)[i]? = some u := by
  refine ⟨if i < k then f i else z, ?_⟩
  simp [filled, h]

set_option maxHeartbeats 400000 in
theorem zzClone_any (v : Value) (ss : List ByteArray) (w : World) (hS : Strs w v ss) (hsm : ss.length ≤ 1048576) :
    Calls Tryd.prog 12 #[v] w fun e w' => ∃ v', e = .returned v' ∧ Hid (Strs w' v' ss ∧ From w.heap.size v') ∧ Below w.heap.size w w' := by
  obtain ⟨i0, hi, hz0, hz1, hz2⟩ := info_parts Tryd.info9
  obtain ⟨ao, cap, rfl, hn, HC⟩ := hS.sized
  cases ao with
  | none =>
    have hss : ss = [] := by
      cases ss with
      | nil => rfl
      | cons x xs => obtain ⟨_, _, h, _⟩ := HC.out (by simp); cases h
    subst hss
    clear HC hS
    simp only [List.length_nil]
    have hnil : ∀ w, (binOp .eql 23 (.slice none 0 cap) (.slice none 0 0)).run Tryd.prog w = .ok (.bool true) w := fun w => Lib.run_eql_slice_nil (P := Tryd.prog) w 23 9 none 0 cap 0 0 Tryd.underlying23
    go_enter Tryd.func12, Tryd.ntmps12
    go_wp2
    go_ret
    exact ⟨_, rfl, ⟨⟨none, 0, rfl, Nat.le_refl _, by simp, fun h => absurd rfl h⟩, fun a n c h => by cases h⟩, Below.refl _ _⟩
  | some a =>
    clear hS
    generalize hlen : ss.length = n at *
    have HLen : Hid (ss.length = n) := hlen
    clear hlen
    have hnil : ∀ w, (binOp .eql 23 (.slice (some a) n cap) (.slice none 0 0)).run Tryd.prog w = .ok (.bool false) w := fun w => Lib.run_eql_slice_nil (P := Tryd.prog) w 23 9 (some a) n cap 0 0 Tryd.underlying23
    go_enter Tryd.func12, Tryd.ntmps12
    go_wp2_with (at_make; refine wpList_make_full _ rfl _ _ 23 rfl w.heap.size 9 i0 (.string ⟨#[]⟩) 1 Tryd.underlying23 hi hz0 hz1 _ _ _ _ n rfl rfl rfl rfl (by rw [hz2]; omega) (by unfold maxLen; omega) (Nat.le_refl _) ?_; intro w1 hown1 hg1)
    have hb1 : Below w.heap.size w w1 := (Below.refl _ _).grown hg1 (Nat.le_refl _) (by intro k hk; cases hk)
    rw [show (madeCells (Value.string ⟨#[]⟩).cells (n * 1)).toList = filled (fun i => .string (sg ss i)) (.string ⟨#[]⟩) 0 n from by rw [Nat.mul_one, filled_zero]; exact toList_madeCells_one _ n] at hown1
    clear hg1 hnil
    go_loopw [4] (fun i wr => ∃ k : Nat, k ≤ n ∧ i = .int .i64 k ∧ wr.ownsRow w.heap.size 9 1 (.slice (some ⟨w.heap.size, 0, none⟩) n n) n (filled (fun i => .string (sg ss i)) (.string ⟨#[]⟩) k n) ∧ Below w.heap.size w wr) (fun i _ => n - (intOf i).toNat)
    case atStart => exact ⟨0, Nat.zero_le _, rfl, hown1, hb1⟩
    case round =>
      clear hown1 hb1
      obtain ⟨k, hk, rfl, hown, hbel⟩ := hrel
      by_cases hlt : k < n
      · obtain ⟨b, off, hao, hb, hcell0⟩ := HC.out (by omega)
        have hcell : wr.cell? ⟨b, off + k, none⟩ = some (.string (sg ss k)) := (hbel.cell (p := ⟨b, off + k, none⟩) hb).trans (hcell0 k hlt)
        clear hcell0 HC
        cases hao
        obtain ⟨u, hu⟩ := filled_some (fun i => .string (sg ss i)) (.string ⟨#[]⟩) k n k hlt
        have hc2 : wr.cell? ⟨w.heap.size, k, none⟩ = some u := by rw [hown.cellAt k (by omega)]; exact hu
        have hf2 := hown.frozenAt k
        have hst := hown.stored k (.string (sg ss k))
        rw [filled_set (fun i => .string (sg ss i)) _ k n hlt] at hst
        have hbel2 : Below w.heap.size w (wr.setCell ⟨w.heap.size, k, none⟩ (.string (sg ss k))) := hbel.setCell (Nat.le_refl _) _
        clear hown hu
        go_wp2
        go_roundw
        case rel => exact ⟨k + 1, by omega, by go_num, hst.1, hbel2⟩
        case measure => simp [intOf]; omega
      · obtain rfl : k = n := by omega
        have hc := cells_of_own hown (fun i hi => filled_get (fun i => .string (sg ss i)) (.string ⟨#[]⟩) k i hi) (by omega)
        have hfin : Hid (Strs wr (.slice (some ⟨w.heap.size, 0, none⟩) k k) ss ∧ From w.heap.size (.slice (some ⟨w.heap.size, 0, none⟩) k k)) :=
          ⟨Cells.strs (by rw [HLen.out]; exact hc.1), fun a n c h => by cases h; exact Nat.le_refl _⟩
        clear hown hc
        go_wp2
        go_ret
        exact ⟨_, rfl, hfin, hbel⟩

theorem Strs.setCell {w : World} {v : Value} {ss : List ByteArray} (h : Strs w v ss) {g j : Nat} (hf : From (g + 1) v) (u : Value) : Strs (w.setCell ⟨g, j, none⟩ u) v ss := by
  obtain ⟨ao, cap, rfl, hc, hn, h⟩ := h
  refine ⟨ao, cap, rfl, hc, hn, fun hne => ?_⟩
  obtain ⟨b, off, rfl, hlt, hcell⟩ := h hne
  have hb : g + 1 ≤ b := hf _ _ _ rfl
  refine ⟨b, off, rfl, by simpa using hlt, fun i hi => ?_⟩
  rw [World.cell?_setCell_other _ _ _ _ (by intro e; cases e; omega)]
  exact hcell i hi
theorem From.mono {lo lo' : Nat} {v : Value} (h : From lo v) (hl : lo' ≤ lo) : From lo' v := fun a n c e => Nat.le_trans hl (h a n c e)

theorem filled_upd (f f' : Nat → Value) (z : Value) (k n : Nat) (h : k < n) (hf : ∀ i, i < k → f' i = f i) : (filled f z k n).set k (f' k) = filled f' z (k + 1) n := by
  rw [← filled_set f' z k n h]
  congr 1
  unfold filled
  apply List.map_congr_left
  intro i _
  by_cases hi : i < k
  · rw [if_pos hi, if_pos hi, hf i hi]
  · rw [if_neg hi, if_neg hi]

set_option maxHeartbeats 400000 in
set_option maxRecDepth 100000 in
theorem zzCloneNested_any (v : Value) (rs : List (Value × List ByteArray)) (w : World) (hS : Rws w v rs) (hsm : SmallR rs) :
    Calls Tryd.prog 11 #[v] w fun e w' => ∃ (v' : Value) (f : Nat → Value), e = .returned v' ∧ Hid (Cells w' v' rs.length f ∧ ∀ i, i < rs.length → Strs w' (f i) (rr rs i)) ∧ Below w.heap.size w w' := by
  obtain ⟨i0, hi, hz0, hz1, hz2⟩ := info_parts Tryd.info23
  obtain ⟨⟨ao, cap, rfl, hcap, hn, hc⟩, hrows⟩ := hS
  obtain ⟨hsm1, hsm2⟩ := hsm
  generalize rs.length = n at *
  cases ao with
  | none =>
    have hn0 : n = 0 := by
      rcases Nat.eq_zero_or_pos n with h | h
      · exact h
      · obtain ⟨_, _, h, _⟩ := hc h; cases h
    subst hn0
    clear hc hrows hsm2
    have hnil : ∀ w, (binOp .eql 22 (.slice none 0 cap) (.slice none 0 0)).run Tryd.prog w = .ok (.bool true) w := fun w => Lib.run_eql_slice_nil (P := Tryd.prog) w 22 23 none 0 cap 0 0 Tryd.underlying22
    go_enter Tryd.func11, Tryd.ntmps11
    go_wp2
    go_ret
    exact ⟨_, fun _ => .slice none 0 0, rfl, ⟨⟨none, 0, rfl, Nat.le_refl _, by omega, fun h => absurd h (by omega)⟩, fun i hi => by omega⟩, Below.refl _ _⟩
  | some a =>
    have HC : Hid (0 < n → ∃ b off, some a = some ⟨b, off, none⟩ ∧ b < w.heap.size ∧ ∀ i, i < n → w.cell? ⟨b, off + i, none⟩ = some (rv rs i)) := hc
    have HR : Hid (∀ i, i < n → Strs w (rv rs i) (rr rs i)) := hrows
    have HS2 : Hid (∀ i, i < n → Small (rr rs i)) := hsm2
    clear hc hrows hsm2
    have hnil : ∀ w, (binOp .eql 22 (.slice (some a) n cap) (.slice none 0 0)).run Tryd.prog w = .ok (.bool false) w := fun w => Lib.run_eql_slice_nil (P := Tryd.prog) w 22 23 (some a) n cap 0 0 Tryd.underlying22
    go_enter Tryd.func11, Tryd.ntmps11
    go_wp2_with (at_make; refine wpList_make_full _ rfl _ _ 22 rfl w.heap.size 23 i0 (.slice none 0 0) 1 Tryd.underlying22 hi hz0 hz1 _ _ _ _ n rfl rfl rfl rfl (by rw [hz2]; omega) (by unfold maxLen; omega) (Nat.le_refl _) ?_; intro w1 hown1 hg1)
    have hb1 : Below w.heap.size w w1 := (Below.refl _ _).grown hg1 (Nat.le_refl _) (by intro k hk; cases hk)
    rw [show (madeCells (Value.slice none 0 0).cells (n * 1)).toList = filled (fun _ => .slice none 0 0) (.slice none 0 0) 0 n from by rw [Nat.mul_one, filled_zero]; exact toList_madeCells_one _ n] at hown1
    clear hg1 hnil
    go_loopw [4] (fun i wr => ∃ (k : Nat) (f : Nat → Value), k ≤ n ∧ i = .int .i64 k ∧ wr.ownsRow w.heap.size 23 1 (.slice (some ⟨w.heap.size, 0, none⟩) n n) n (filled f (.slice none 0 0) k n) ∧ Hid (∀ i, i < k → Strs wr (f i) (rr rs i) ∧ From (w.heap.size + 1) (f i)) ∧ Below w.heap.size w wr) (fun i _ => n - (intOf i).toNat)
    case atStart => exact ⟨0, _, Nat.zero_le _, rfl, hown1, (fun i hi => by omega), hb1⟩
    case round =>
      clear hown1 hb1
      obtain ⟨k, f, hk, rfl, hown, hall, hbel⟩ := hrel
      by_cases hlt : k < n
      · obtain ⟨b, off, hao, hb, hcell0⟩ := HC.out (by omega)
        have hcell : wr.cell? ⟨b, off + k, none⟩ = some (rv rs k) := (hbel.cell (p := ⟨b, off + k, none⟩) hb).trans (hcell0 k hlt)
        clear hcell0 HC
        cases hao
        have hrow : Hid (Strs wr (rv rs k) (rr rs k)) := (HR.out k hlt).below hbel (Nat.le_refl _)
        have hsm3 : Hid ((rr rs k).length ≤ 1048576) := (HS2.out k hlt).1
        have hg0 : w.heap.size < wr.heap.size := (cells_of_own (f := fun i => if i < k then f i else .slice none 0 0) hown (fun i hi => by simp [filled, hi]) (by omega)).2.2
        go_wp2_with fail
        refine (zzClone_any _ _ _ hrow.out hsm3.out).mono ?_
        rintro e w2 ⟨v', rfl, hv', hb2⟩
        have hown2 : w2.ownsRow w.heap.size 23 1 (.slice (some ⟨w.heap.size, 0, none⟩) n n) n (filled f (.slice none 0 0) k n) := by
          rcases hown.2 with ⟨h', _⟩ | ⟨g', cap', cur, h', hb', hg, hnc, hcm, hcs, htk⟩
          · simp at h'
          · simp only [Value.slice.injEq, Option.some.injEq, Addr.mk.injEq, and_true, true_and] at h'
            obtain ⟨rfl, rfl⟩ := h'
            exact ⟨hown.1, Or.inr ⟨_, _, cur, rfl, hb', by rw [hb2.block _ hg0]; exact hg, hnc, hcm, hcs, htk⟩⟩
        obtain ⟨u, hu⟩ := filled_some f (.slice none 0 0) k n k hlt
        have hc2 : w2.cell? ⟨w.heap.size, k, none⟩ = some u := by rw [hown2.cellAt k (by omega)]; exact hu
        have hf2 := hown2.frozenAt k
        have hst := hown2.stored k v'
        have hff : ∃ f' : Nat → Value, (∀ i, i < k → f' i = f i) ∧ f' k = v' := ⟨fun i => if i = k then v' else f i, fun i hi => by simp; omega, by simp⟩
        obtain ⟨f', hf1, hfk⟩ := hff
        have e1 := filled_upd f f' (.slice none 0 0) k n hlt hf1
        rw [hfk] at e1
        rw [e1] at hst
        have hbel2 : Below w.heap.size w (w2.setCell ⟨w.heap.size, k, none⟩ v') := (hbel.trans (hb2.mono hbel.size)).setCell (Nat.le_refl _) _
        have hall2 : Hid (∀ i, i < k + 1 → Strs (w2.setCell ⟨w.heap.size, k, none⟩ v') (f' i) (rr rs i) ∧ From (w.heap.size + 1) (f' i)) := fun i hi => by
          rcases Nat.lt_or_ge i k with h | h
          · rw [hf1 i h]
            have := hall.out i h
            exact ⟨(this.1.below hb2 (Nat.le_refl _)).setCell this.2 _, this.2⟩
          · rw [show i = k by omega, hfk]
            have hfr := hv'.out.2.mono (show w.heap.size + 1 ≤ wr.heap.size by omega)
            exact ⟨hv'.out.1.setCell hfr _, hfr⟩
        obtain ⟨ao2, cp2, hv2⟩ : ∃ ao c, v' = .slice ao (rr rs k).length c := by
          obtain ⟨ao, c, h, _⟩ := hv'.out.1
          exact ⟨ao, c, h⟩
        clear hown hown2 hu hall hf1 hfk e1 hrow hsm3 hv'
        subst hv2
        go_wp2
        go_roundw
        case rel => exact ⟨k + 1, f', by omega, by go_num, hst.1, hall2, hbel2⟩
        case measure => simp [intOf]; omega
      · obtain rfl : k = n := by omega
        have hc := cells_of_own hown (fun i hi => filled_get f (.slice none 0 0) k i hi) (by omega)
        have hfin : Hid (Cells wr (.slice (some ⟨w.heap.size, 0, none⟩) k k) k f ∧ ∀ i, i < k → Strs wr (f i) (rr rs i)) := ⟨hc.1, fun i hi => (hall.out i hi).1⟩
        clear hown hc hall
        go_wp2
        go_ret
        exact ⟨_, f, rfl, hfin, hbel⟩
end Go.Proofs.Qxb6601214aDoor

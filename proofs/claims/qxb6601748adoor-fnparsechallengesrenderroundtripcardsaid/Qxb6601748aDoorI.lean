/- Seat b6601748aD: copyChals. -/
import Derived.Test.Qxb6601748aDoorH
namespace Go.Proofs.Qxb6601748aDoor
open Go.RowKit Go.PlainAid

theorem Tryd.info38 : (Tryd.prog.info? 38).map (fun i => (i.zero, i.size, i.bytes)) = some (some (.agg #[.string ⟨#[]⟩, .slice none 0 0, .bool false]), 3, 48) := by kernel_rfl
theorem Tryd.info40 : (Tryd.prog.info? 40).map (fun i => (i.zero, i.size, i.bytes)) = some (some (.agg #[.string ⟨#[]⟩, .string ⟨#[]⟩]), 2, 32) := by kernel_rfl

/-- The slice lies at or behind block 'lo' (or is nil). -/
def From (lo : Nat) (v : Value) : Prop := ∀ a n c, v = .slice (some a) n c → lo ≤ a.block
theorem own_keep {w w' : World} {B n : Nat} {e : TypeId} {sz : Nat} {v : Value} {xs : List Value} (h : w.ownsRow B e sz v n xs) (hb : Below w.heap.size w w') : w'.ownsRow B e sz v n xs :=
  own_same h (fun k _ hk => hb.block k hk)
theorem own_len {w : World} {B n : Nat} {e : TypeId} {sz : Nat} {v : Value} {xs : List Value} (h : w.ownsRow B e sz v n xs) : xs.length = n * sz := h.1
theorem Prm.setCell {w : World} {v : Value} {ps : List Pm} (h : Prm w v ps) {g j : Nat} (hf : From (g + 1) v) (u : Value) : Prm (w.setCell ⟨g, j, none⟩ u) v ps := by
  obtain ⟨ao, cap, rfl, hn, h⟩ := h
  refine ⟨ao, cap, rfl, hn, fun hp => ?_⟩
  obtain ⟨b, off, rfl, hl, hc⟩ := h hp
  have hne : b ≠ g := by have := hf ⟨b, off, none⟩ _ _ rfl; simp at this; omega
  have hk : ∀ o, (w.setCell ⟨g, j, none⟩ u).cell? ⟨b, o, none⟩ = w.cell? ⟨b, o, none⟩ := fun o => World.cell?_of_block (w := w) (Below.heap_setCell w ⟨g, j, none⟩ u b hne)
  exact ⟨b, off, rfl, by rw [World.size_setCell]; exact hl, fun i hi => ⟨by rw [hk]; exact (hc i hi).1, by rw [hk]; exact (hc i hi).2⟩⟩

/-- The copy at block g: its first k challenges are L's. -/
def CopyAt (w : World) (g n k : Nat) (L : List Ch) : Prop :=
  ∃ (xs : List Value) (V : Nat → Value), w.ownsRow g 38 3 (.slice (some ⟨g, 0, none⟩) n n) n xs ∧
    (∀ i, i < k → xs[i * 3]? = some (.string (cg L i).sch) ∧ xs[i * 3 + 1]? = some (V i) ∧ xs[i * 3 + 2]? = some (.bool (cg L i).nh)) ∧
    ∀ i, i < k → Prm w (V i) (cg L i).ps ∧ From (g + 1) (V i)
theorem CopyAt.step {W : World} {g n k : Nat} {L : List Ch} {xs : List Value} {V : Nat → Value} {nv : Value} (hown : W.ownsRow g 38 3 (.slice (some ⟨g, 0, none⟩) n n) n xs)
    (hd : ∀ i, i < k → xs[i * 3]? = some (.string (cg L i).sch) ∧ xs[i * 3 + 1]? = some (V i) ∧ xs[i * 3 + 2]? = some (.bool (cg L i).nh))
    (hV : ∀ i, i < k → Prm W (V i) (cg L i).ps ∧ From (g + 1) (V i)) (h1 : Prm W nv (cg L k).ps) (h2 : From (g + 1) nv) (hk : k < n) :
    CopyAt (((W.setCell ⟨g, k * 3, none⟩ (.string (cg L k).sch)).setCell ⟨g, k * 3 + 1, none⟩ nv).setCell ⟨g, k * 3 + 2, none⟩ (.bool (cg L k).nh)) g n (k + 1) L := by
  have hl : xs.length = n * 3 := own_len hown
  refine ⟨((xs.set (k * 3) (.string (cg L k).sch)).set (k * 3 + 1) nv).set (k * 3 + 2) (.bool (cg L k).nh), fun i => if i = k then nv else V i, ?_, fun i hi => ?_, fun i hi => ?_⟩
  · exact (((hown.stored (k * 3) _).1.stored (k * 3 + 1) _).1.stored (k * 3 + 2) _).1
  · by_cases hik : i = k
    · subst hik
      refine ⟨?_, ?_, ?_⟩
      · rw [List.getElem?_set_ne (by omega), List.getElem?_set_ne (by omega), List.getElem?_set_self (by omega)]
      · rw [List.getElem?_set_ne (by omega), List.getElem?_set_self (by simp; omega)]; simp
      · rw [List.getElem?_set_self (by simp; omega)]
    · obtain ⟨d1, d2, d3⟩ := hd i (by omega)
      refine ⟨?_, ?_, ?_⟩
      · rw [List.getElem?_set_ne (by omega), List.getElem?_set_ne (by omega), List.getElem?_set_ne (by omega)]; exact d1
      · rw [List.getElem?_set_ne (by omega), List.getElem?_set_ne (by omega), List.getElem?_set_ne (by omega)]; simp [hik, d2]
      · rw [List.getElem?_set_ne (by omega), List.getElem?_set_ne (by omega), List.getElem?_set_ne (by omega)]; exact d3
  · by_cases hik : i = k
    · subst hik
      simp only [if_true]
      exact ⟨((h1.setCell h2 _).setCell h2 _).setCell h2 _, h2⟩
    · simp only [if_neg hik]
      obtain ⟨p1, p2⟩ := hV i (by omega)
      exact ⟨((p1.setCell p2 _).setCell p2 _).setCell p2 _, p2⟩
theorem CopyAt.chl {w : World} {g n : Nat} {L : List Ch} (h : CopyAt w g n n L) (hn : L.length = n) (hn2 : n ≤ 65536) : ∃ V, Chl w (.slice (some ⟨g, 0, none⟩) n n) L V := by
  obtain ⟨xs, V, hown, hd, hV⟩ := h
  refine ⟨V, ⟨⟨some ⟨g, 0, none⟩, n, by rw [hn], by omega, fun hp => ⟨g, 0, rfl, ?_, fun i hi => ?_⟩⟩, fun i hi => (hV i (by omega)).1⟩⟩
  · rcases hown.2 with ⟨h', _⟩ | ⟨g', cap', cur, h', hb, hg, _⟩
    · simp at h'
    · simp only [Value.slice.injEq, Option.some.injEq, Addr.mk.injEq, and_true, true_and] at h'
      obtain ⟨rfl, rfl⟩ := h'
      exact lt_of_heap hg
  · obtain ⟨d1, d2, d3⟩ := hd i (by omega)
    rw [Nat.zero_add]
    exact ⟨by rw [hown.cellAt (i * 3) (by omega)]; exact d1, by rw [hown.cellAt (i * 3 + 1) (by omega)]; exact d2, by rw [hown.cellAt (i * 3 + 2) (by omega)]; exact d3⟩
set_option maxHeartbeats 3200000 in
set_option maxRecDepth 100000 in
theorem copy_any (v : Value) (L : List Ch) (V0 : Nat → Value) (w : World) (hC : Chl w v L V0) (hn : L.length ≤ 65536) (hps : ∀ i, (cg L i).ps.length ≤ 65536) :
    Calls Tryd.prog 7 #[v] w fun e w' => ∃ v', e = .returned v' ∧ Hid (∃ V', Chl w' v' L V') ∧ Below w.heap.size w w' := by
  obtain ⟨i0, hi, hz0, hz1, hz2⟩ := info_parts Tryd.info38
  obtain ⟨i1, hi1, hy0, hy1, hy2⟩ := info_parts Tryd.info40
  have HCH : Hid (Chl w v L V0) := hC
  obtain ⟨⟨ao, cap, rfl, hn0, hc0⟩, hp0⟩ := hC
  cases ao with
  | none =>
    have hL : L = [] := by
      cases L with
      | nil => rfl
      | cons x xs => obtain ⟨_, _, h, _⟩ := hc0 (by simp); cases h
    subst hL
    clear hc0 hp0 hn0
    simp only [List.length_nil]
    have hnil : ∀ w, (binOp .eql 22 (.slice none 0 cap) (.slice none 0 0)).run Tryd.prog w = .ok (.bool true) w := fun w => Lib.run_eql_slice_nil (P := Tryd.prog) w 22 38 none 0 cap 0 0 Tryd.underlying22
    have HE : Hid (∃ V', Chl w (.slice none 0 0) [] V') := ⟨fun _ => undef, ⟨⟨none, 0, rfl, by simp, fun h => absurd h (by simp)⟩, fun i hi => absurd hi (by simp)⟩⟩
    go_enter Tryd.func7, Tryd.ntmps7
    go_wp2
    go_ret
    exact ⟨_, rfl, HE, Below.refl _ _⟩
  | some a =>
    clear hn0
    have HC : Hid (0 < L.length → ∃ b off, some a = some ⟨b, off, none⟩ ∧ b < w.heap.size ∧ ∀ i, i < L.length → w.cell? ⟨b, off + i * 3, none⟩ = some (.string (cg L i).sch) ∧ w.cell? ⟨b, off + i * 3 + 1, none⟩ = some (V0 i) ∧ w.cell? ⟨b, off + i * 3 + 2, none⟩ = some (.bool (cg L i).nh)) := hc0
    have HP0 : Hid (∀ i, i < L.length → Prm w (V0 i) (cg L i).ps) := hp0
    have HPS : Hid (∀ i, (cg L i).ps.length ≤ 65536) := hps
    clear hc0 hp0 hps HCH
    generalize hlen : L.length = n at *
    have HLen : Hid (L.length = n) := hlen
    clear hlen
    have hnil : ∀ w, (binOp .eql 22 (.slice (some a) n cap) (.slice none 0 0)).run Tryd.prog w = .ok (.bool false) w := fun w => Lib.run_eql_slice_nil (P := Tryd.prog) w 22 38 (some a) n cap 0 0 Tryd.underlying22
    go_enter Tryd.func7, Tryd.ntmps7
    go_wp2_with (at_make; refine wpList_make_full _ rfl _ _ 22 rfl w.heap.size 38 i0 (.agg #[.string ⟨#[]⟩, .slice none 0 0, .bool false]) 3 Tryd.underlying22 hi hz0 hz1 _ _ _ _ n rfl rfl rfl rfl (by rw [hz2]; omega) (by unfold maxLen; omega) (Nat.le_refl _) ?_; intro w1 hown1 hg1)
    have hb1 : Below w.heap.size w w1 := (Below.refl _ _).grown hg1 (Nat.le_refl _) (by intro k hk; cases hk)
    have hsz1 : w.heap.size + 1 ≤ w1.heap.size := by
      rcases hown1.2 with ⟨h', _⟩ | ⟨g', cap', cur, h', hb, hg, _⟩
      · simp at h'
      · simp only [Value.slice.injEq, Option.some.injEq, Addr.mk.injEq, and_true, true_and] at h'
        obtain ⟨rfl, rfl⟩ := h'
        exact lt_of_heap hg
    have HST : Hid (CopyAt w1 w.heap.size n 0 L) := ⟨_, fun _ => undef, hown1, fun i hi => absurd hi (Nat.not_lt_zero _), fun i hi => absurd hi (Nat.not_lt_zero _)⟩
    clear hg1 hnil hown1
    go_loopw [4] (fun iv wr => ∃ k : Nat, k ≤ n ∧ iv = .int .i64 k ∧ Hid (CopyAt wr w.heap.size n k L) ∧ Below w.heap.size w wr ∧ w.heap.size + 1 ≤ wr.heap.size) (fun i _ => n - (intOf i).toNat)
    case atStart => exact ⟨0, Nat.zero_le _, rfl, HST, hb1, hsz1⟩
    case round =>
      clear HST hb1 hsz1
      obtain ⟨k, hk, rfl, HCA, hbel, hszg⟩ := hrel
      have hsz := hbel.size
      by_cases hlt : k < n
      · obtain ⟨xs, V, hown, hdone, hV⟩ := HCA.out
        obtain ⟨b, off, hao, hb, hcell0⟩ := HC.out (by omega)
        obtain ⟨c1w, c2w, c3w⟩ := hcell0 k hlt
        obtain ⟨pa, pc, hpv, hpn, hpc⟩ := HP0.out k hlt
        have hpl := HPS.out k
        rw [hpv] at c2w
        have c1 := (hbel.cell (p := ⟨b, off + k * 3, none⟩) hb).trans c1w
        have c2 := (hbel.cell (p := ⟨b, off + k * 3 + 1, none⟩) hb).trans c2w
        have c3 := (hbel.cell (p := ⟨b, off + k * 3 + 2, none⟩) hb).trans c3w
        clear hcell0 hpv c1w c2w c3w HCA
        cases hao
        cases pa with
        | none =>
          have hp0 : (cg L k).ps.length = 0 := by
            rcases Nat.eq_zero_or_pos (cg L k).ps.length with h | h
            · exact h
            · obtain ⟨_, _, h, _⟩ := hpc h; cases h
          have hnv : Prm wr (.slice none 0 0) (cg L k).ps ∧ From (w.heap.size + 1) (.slice none 0 0) := ⟨⟨none, 0, by rw [hp0], by omega, fun h => absurd h (by omega)⟩, fun a n c h => by cases h⟩
          have hbW : Below wr.heap.size wr wr := Below.refl _ _
          clear hpc
          have hownW : wr.ownsRow w.heap.size 38 3 (.slice (some ⟨w.heap.size, 0, none⟩) n n) n xs := own_keep hown hbW
          have hxl : xs.length = n * 3 := own_len hownW
          obtain ⟨y0, hy0⟩ : ∃ y, xs[k * 3]? = some y := ⟨_, List.getElem?_eq_getElem (by rw [hxl]; omega)⟩
          obtain ⟨y1, hy1⟩ : ∃ y, xs[k * 3 + 1]? = some y := ⟨_, List.getElem?_eq_getElem (by rw [hxl]; omega)⟩
          obtain ⟨y2, hy2⟩ : ∃ y, xs[k * 3 + 2]? = some y := ⟨_, List.getElem?_eq_getElem (by rw [hxl]; omega)⟩
          have e0 : wr.cell? ⟨w.heap.size, k * 3, none⟩ = some y0 := by rw [hownW.cellAt (k * 3) (by omega)]; exact hy0
          have e1 : wr.cell? ⟨w.heap.size, k * 3 + 1, none⟩ = some y1 := by rw [hownW.cellAt (k * 3 + 1) (by omega)]; exact hy1
          have e2 : wr.cell? ⟨w.heap.size, k * 3 + 2, none⟩ = some y2 := by rw [hownW.cellAt (k * 3 + 2) (by omega)]; exact hy2
          have f0 := hownW.frozenAt (k * 3)
          have f1 := hownW.frozenAt (k * 3 + 1)
          have f2 := hownW.frozenAt (k * 3 + 2)
          have c1W := (hbW.cell (p := ⟨b, off + k * 3, none⟩) (Nat.lt_of_lt_of_le hb hsz)).trans c1
          have c2W := (hbW.cell (p := ⟨b, off + k * 3 + 1, none⟩) (Nat.lt_of_lt_of_le hb hsz)).trans c2
          have c3W := (hbW.cell (p := ⟨b, off + k * 3 + 2, none⟩) (Nat.lt_of_lt_of_le hb hsz)).trans c3
          have HFIN : Hid (CopyAt (((wr.setCell ⟨w.heap.size, k * 3, none⟩ (.string (cg L k).sch)).setCell ⟨w.heap.size, k * 3 + 1, none⟩ (.slice none 0 0)).setCell ⟨w.heap.size, k * 3 + 2, none⟩ (.bool (cg L k).nh)) w.heap.size n (k + 1) L) := CopyAt.step hownW hdone (fun i hi => ⟨((hV i hi).1).below hbW (Nat.le_refl _), (hV i hi).2⟩) hnv.1 hnv.2 hlt
          have hbFIN : Below w.heap.size w (((wr.setCell ⟨w.heap.size, k * 3, none⟩ (.string (cg L k).sch)).setCell ⟨w.heap.size, k * 3 + 1, none⟩ (.slice none 0 0)).setCell ⟨w.heap.size, k * 3 + 2, none⟩ (.bool (cg L k).nh)) := (((hbel.trans (hbW.mono hsz)).setCell (Nat.le_refl _) _).setCell (Nat.le_refl _) _).setCell (Nat.le_refl _) _
          have HBF : Hid (Below w.heap.size w (((wr.setCell ⟨w.heap.size, k * 3, none⟩ (.string (cg L k).sch)).setCell ⟨w.heap.size, k * 3 + 1, none⟩ (.slice none 0 0)).setCell ⟨w.heap.size, k * 3 + 2, none⟩ (.bool (cg L k).nh))) := hbFIN
          clear hbFIN hownW hxl hy0 hy1 hy2 hdone hV hown hnv
          go_wp2
          go_region
          go_wp2
          go_roundw
          case rel => exact ⟨k + 1, by omega, by go_num, HFIN, HBF.out.drew, by simp; omega⟩
          case measure => simp [intOf]; omega
        | some pad =>
          have HPC : Hid (0 < (cg L k).ps.length → ∃ b off, some pad = some ⟨b, off, none⟩ ∧ b < w.heap.size ∧ ∀ j, j < (cg L k).ps.length → w.cell? ⟨b, off + j * 2, none⟩ = some (.string (pn (cg L k).ps j)) ∧ w.cell? ⟨b, off + j * 2 + 1, none⟩ = some (.string (pv (cg L k).ps j))) := hpc
          have HOWN : Hid (wr.ownsRow w.heap.size 38 3 (.slice (some ⟨w.heap.size, 0, none⟩) n n) n xs) := hown
          have HDONE : Hid (∀ i, i < k → xs[i * 3]? = some (.string (cg L i).sch) ∧ xs[i * 3 + 1]? = some (V i) ∧ xs[i * 3 + 2]? = some (.bool (cg L i).nh)) := hdone
          have HVV : Hid (∀ i, i < k → Prm wr (V i) (cg L i).ps ∧ From (w.heap.size + 1) (V i)) := hV
          clear hpc hown hdone hV
          obtain ⟨wo, rfl⟩ : ∃ x, x = wr := ⟨wr, rfl⟩
          have HC1 : Hid (wo.cell? ⟨b, off + k * 3, none⟩ = some (.string (cg L k).sch)) := c1
          have HC2 : Hid (wo.cell? ⟨b, off + k * 3 + 1, none⟩ = some (.slice (some pad) (cg L k).ps.length pc)) := c2
          have HC3 : Hid (wo.cell? ⟨b, off + k * 3 + 2, none⟩ = some (.bool (cg L k).nh)) := c3
          go_wp2_with (at_make; refine wpList_make_full _ rfl _ _ 36 rfl wo.heap.size 40 i1 (.agg #[.string ⟨#[]⟩, .string ⟨#[]⟩]) 2 Tryd.underlying36 hi1 hy0 hy1 _ _ _ _ (cg L k).ps.length rfl rfl rfl rfl (by rw [hy2]; omega) (by unfold maxLen; omega) (Nat.le_refl _) ?_; intro w2 hown2 hg2)
          clear c1 c2 c3
          have hb2 : Below wo.heap.size wo w2 := (Below.refl _ _).grown hg2 (Nat.le_refl _) (by intro k hk; cases hk)
          have HST2 : Hid (∃ ys : List Value, w2.ownsRow wo.heap.size 40 2 (.slice (some ⟨wo.heap.size, 0, none⟩) (cg L k).ps.length (cg L k).ps.length) (cg L k).ps.length ys ∧ ∀ t, t < 0 → ys[t * 2]? = some (.string (pn (cg L k).ps t)) ∧ ys[t * 2 + 1]? = some (.string (pv (cg L k).ps t))) := ⟨_, hown2, fun t ht => absurd ht (Nat.not_lt_zero _)⟩
          clear hown2 hg2
          go_loopw [6] (fun jv wr => ∃ j : Nat, j ≤ (cg L k).ps.length ∧ jv = .int .i64 j ∧ Hid (∃ ys : List Value, wr.ownsRow wo.heap.size 40 2 (.slice (some ⟨wo.heap.size, 0, none⟩) (cg L k).ps.length (cg L k).ps.length) (cg L k).ps.length ys ∧ ∀ t, t < j → ys[t * 2]? = some (.string (pn (cg L k).ps t)) ∧ ys[t * 2 + 1]? = some (.string (pv (cg L k).ps t))) ∧ Below wo.heap.size wo wr) (fun j _ => (cg L k).ps.length - (intOf j).toNat)
          case atStart => exact ⟨0, Nat.zero_le _, rfl, HST2, hb2⟩
          case round =>
            clear HST2 hb2
            obtain ⟨j, hj, rfl, HYS, hbW⟩ := hrel
            obtain ⟨ys, hown2, hyd⟩ := HYS.out
            have c2 := (hbW.cell (p := ⟨b, off + k * 3 + 1, none⟩) (Nat.lt_of_lt_of_le hb hsz)).trans HC2.out
            by_cases hjlt : j < (cg L k).ps.length
            · obtain ⟨b2, off2, hpa, hb2, hc20⟩ := HPC.out (by omega)
              cases hpa
              have d1 := (hbW.cell (p := ⟨b2, off2 + j * 2, none⟩) (Nat.lt_of_lt_of_le hb2 hsz)).trans ((hbel.cell (p := ⟨b2, off2 + j * 2, none⟩) hb2).trans (hc20 j hjlt).1)
              have d2 := (hbW.cell (p := ⟨b2, off2 + j * 2 + 1, none⟩) (Nat.lt_of_lt_of_le hb2 hsz)).trans ((hbel.cell (p := ⟨b2, off2 + j * 2 + 1, none⟩) hb2).trans (hc20 j hjlt).2)
              have hyl : ys.length = (cg L k).ps.length * 2 := own_len hown2
              obtain ⟨y0, hy0'⟩ : ∃ y, ys[j * 2]? = some y := ⟨_, List.getElem?_eq_getElem (by rw [hyl]; omega)⟩
              obtain ⟨y1, hy1'⟩ : ∃ y, ys[j * 2 + 1]? = some y := ⟨_, List.getElem?_eq_getElem (by rw [hyl]; omega)⟩
              have e0 : wr.cell? ⟨wo.heap.size, j * 2, none⟩ = some y0 := by rw [hown2.cellAt (j * 2) (by omega)]; exact hy0'
              have e1 : wr.cell? ⟨wo.heap.size, j * 2 + 1, none⟩ = some y1 := by rw [hown2.cellAt (j * 2 + 1) (by omega)]; exact hy1'
              have f0 := hown2.frozenAt (j * 2)
              have f1 := hown2.frozenAt (j * 2 + 1)
              have hst := ((hown2.stored (j * 2) (.string (pn (cg L k).ps j))).1.stored (j * 2 + 1) (.string (pv (cg L k).ps j))).1
              have HY2 : Hid (∃ ys : List Value, ((wr.setCell ⟨wo.heap.size, j * 2, none⟩ (.string (pn (cg L k).ps j))).setCell ⟨wo.heap.size, j * 2 + 1, none⟩ (.string (pv (cg L k).ps j))).ownsRow wo.heap.size 40 2 (.slice (some ⟨wo.heap.size, 0, none⟩) (cg L k).ps.length (cg L k).ps.length) (cg L k).ps.length ys ∧ ∀ t, t < j + 1 → ys[t * 2]? = some (.string (pn (cg L k).ps t)) ∧ ys[t * 2 + 1]? = some (.string (pv (cg L k).ps t))) := ⟨_, hst, fun t ht => by
                by_cases htj : t = j
                · subst htj
                  exact ⟨by rw [List.getElem?_set_ne (by omega), List.getElem?_set_self (by omega)], by rw [List.getElem?_set_self (by simp; omega)]⟩
                · obtain ⟨q1, q2⟩ := hyd t (by omega)
                  exact ⟨by rw [List.getElem?_set_ne (by omega), List.getElem?_set_ne (by omega)]; exact q1, by rw [List.getElem?_set_ne (by omega), List.getElem?_set_ne (by omega)]; exact q2⟩⟩
              have HB2 : Hid (Below wo.heap.size wo ((wr.setCell ⟨wo.heap.size, j * 2, none⟩ (.string (pn (cg L k).ps j))).setCell ⟨wo.heap.size, j * 2 + 1, none⟩ (.string (pv (cg L k).ps j)))) := (hbW.setCell (Nat.le_refl _) _).setCell (Nat.le_refl _) _
              clear hc20 hst hyd hown2 hyl hy0' hy1' HYS
              go_wp2
              go_roundw
              case rel => exact ⟨j + 1, by omega, by go_num, HY2, HB2.out⟩
              case measure => simp [intOf]; omega
            · obtain rfl : j = (cg L k).ps.length := by omega
              have hnv : Prm wr (.slice (some ⟨wo.heap.size, 0, none⟩) (cg L k).ps.length (cg L k).ps.length) (cg L k).ps ∧ From (w.heap.size + 1) (.slice (some ⟨wo.heap.size, 0, none⟩) (cg L k).ps.length (cg L k).ps.length) := by
                refine ⟨⟨some ⟨wo.heap.size, 0, none⟩, (cg L k).ps.length, rfl, by omega, fun _ => ⟨wo.heap.size, 0, rfl, ?_, fun t ht => ?_⟩⟩, fun a n c h => by cases h; exact hszg⟩
                · rcases hown2.2 with ⟨h', _⟩ | ⟨g', cap', cur, h', hb', hg, _⟩
                  · simp at h'
                  · simp only [Value.slice.injEq, Option.some.injEq, Addr.mk.injEq, and_true, true_and] at h'
                    obtain ⟨rfl, rfl⟩ := h'
                    exact lt_of_heap hg
                · rw [Nat.zero_add, hown2.cellAt (t * 2) (by omega), hown2.cellAt (t * 2 + 1) (by omega)]
                  exact hyd t ht
              have hown := HOWN.out
              have hdone := HDONE.out
              have hV := HVV.out
              have c1 := HC1.out
              have c3 := HC3.out
              have c2o := HC2.out
              have hszW := hbW.size
              clear hown2 hyd HYS c2
              have hownW : wr.ownsRow w.heap.size 38 3 (.slice (some ⟨w.heap.size, 0, none⟩) n n) n xs := own_keep hown hbW
              have hxl : xs.length = n * 3 := own_len hownW
              obtain ⟨y0, hy0⟩ : ∃ y, xs[k * 3]? = some y := ⟨_, List.getElem?_eq_getElem (by rw [hxl]; omega)⟩
              obtain ⟨y1, hy1⟩ : ∃ y, xs[k * 3 + 1]? = some y := ⟨_, List.getElem?_eq_getElem (by rw [hxl]; omega)⟩
              obtain ⟨y2, hy2⟩ : ∃ y, xs[k * 3 + 2]? = some y := ⟨_, List.getElem?_eq_getElem (by rw [hxl]; omega)⟩
              have e0 : wr.cell? ⟨w.heap.size, k * 3, none⟩ = some y0 := by rw [hownW.cellAt (k * 3) (by omega)]; exact hy0
              have e1 : wr.cell? ⟨w.heap.size, k * 3 + 1, none⟩ = some y1 := by rw [hownW.cellAt (k * 3 + 1) (by omega)]; exact hy1
              have e2 : wr.cell? ⟨w.heap.size, k * 3 + 2, none⟩ = some y2 := by rw [hownW.cellAt (k * 3 + 2) (by omega)]; exact hy2
              have f0 := hownW.frozenAt (k * 3)
              have f1 := hownW.frozenAt (k * 3 + 1)
              have f2 := hownW.frozenAt (k * 3 + 2)
              have c1W := (hbW.cell (p := ⟨b, off + k * 3, none⟩) (Nat.lt_of_lt_of_le hb hsz)).trans c1
              have c2W := (hbW.cell (p := ⟨b, off + k * 3 + 1, none⟩) (Nat.lt_of_lt_of_le hb hsz)).trans c2o
              have c3W := (hbW.cell (p := ⟨b, off + k * 3 + 2, none⟩) (Nat.lt_of_lt_of_le hb hsz)).trans c3
              have HFIN : Hid (CopyAt (((wr.setCell ⟨w.heap.size, k * 3, none⟩ (.string (cg L k).sch)).setCell ⟨w.heap.size, k * 3 + 1, none⟩ (.slice (some ⟨wo.heap.size, 0, none⟩) (cg L k).ps.length (cg L k).ps.length)).setCell ⟨w.heap.size, k * 3 + 2, none⟩ (.bool (cg L k).nh)) w.heap.size n (k + 1) L) := CopyAt.step hownW hdone (fun i hi => ⟨((hV i hi).1).below hbW (Nat.le_refl _), (hV i hi).2⟩) hnv.1 hnv.2 hlt
              have hbFIN : Below w.heap.size w (((wr.setCell ⟨w.heap.size, k * 3, none⟩ (.string (cg L k).sch)).setCell ⟨w.heap.size, k * 3 + 1, none⟩ (.slice (some ⟨wo.heap.size, 0, none⟩) (cg L k).ps.length (cg L k).ps.length)).setCell ⟨w.heap.size, k * 3 + 2, none⟩ (.bool (cg L k).nh)) := (((hbel.trans (hbW.mono hsz)).setCell (Nat.le_refl _) _).setCell (Nat.le_refl _) _).setCell (Nat.le_refl _) _
              have HBF : Hid (Below w.heap.size w (((wr.setCell ⟨w.heap.size, k * 3, none⟩ (.string (cg L k).sch)).setCell ⟨w.heap.size, k * 3 + 1, none⟩ (.slice (some ⟨wo.heap.size, 0, none⟩) (cg L k).ps.length (cg L k).ps.length)).setCell ⟨w.heap.size, k * 3 + 2, none⟩ (.bool (cg L k).nh))) := hbFIN
              clear hbFIN hownW hxl hy0 hy1 hy2 hdone hV hown hnv
              clear c1 c3 c2o
              go_wp2
              go_region
              go_wp2
              go_roundw
              case rel => exact ⟨k + 1, by omega, by go_num, HFIN, HBF.out.drew, by simp; omega⟩
              case measure => simp [intOf]; omega
      · obtain rfl : k = n := by omega
        have hfin : Hid (∃ V', Chl wr (.slice (some ⟨w.heap.size, 0, none⟩) k k) L V') := HCA.out.chl HLen.out (by omega)
        go_wp2
        go_ret
        exact ⟨_, rfl, hfin, hbel⟩
end Go.Proofs.Qxb6601748aDoor

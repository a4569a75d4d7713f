/- Seat b6601748aD: render. -/
import Derived.Test.Qxb6601748aDoorJ
import Derived.Deep.LoopGhost
import Derived.Deep.CutBlock
namespace Go.Proofs.Qxb6601748aDoor
open Go.RowKit Go.PlainAid

theorem Tryd.info9 : (Tryd.prog.info? 9).map (fun i => (i.zero, i.size, i.bytes)) = some (some (.string ⟨#[]⟩), 1, 16) := by kernel_rfl

/-- What render has written behind i challenges: the headers hv (the groups gs), the current one cv (the group gr). -/
def RSt (loose bare : Bool) (w wr : World) (L : List Ch) (i Bc : Nat) (gs : List (List Ch)) (gr : List Ch) (hv cv : Value) : Prop :=
  (gs.flatten ++ gr = L.take i ∧ ∀ x ∈ gs, (rC loose bare true x).length ≤ 131072) ∧ (0 < i → gr ≠ []) ∧ wr.ownsRow w.heap.size 9 1 hv gs.length (gs.map fun x => .string ⟨(rC loose bare true x).toArray⟩) ∧ (∀ k, hv.ownBlock = some k → k < Bc) ∧
    wr.ownsRow Bc 5 1 cv (rC loose bare true gr).length (Lib.byteCells (rC loose bare true gr))
theorem own_nil (w : World) (B : Nat) (e : TypeId) : w.ownsRow B e 1 (.slice none 0 0) 0 [] := ⟨rfl, Or.inl ⟨rfl, rfl⟩⟩
theorem RSt.start {loose bare : Bool} {w : World} {L : List Ch} : RSt loose bare w w L 0 w.heap.size [] [] (.slice none 0 0) (.slice none 0 0) :=
  ⟨⟨by simp, fun x hx => by simp at hx⟩, fun h => absurd h (by omega), own_nil _ _ _, fun k h => by simp [Value.ownBlock] at h, own_nil _ _ _⟩

theorem cw_mono (L : List Ch) {i : Nat} : ∀ {j : Nat}, i ≤ j → cw L i ≤ cw L j
  | 0, h => by rw [show i = 0 by omega]; exact Nat.le_refl _
  | j + 1, h => by
    by_cases hij : i = j + 1
    · rw [hij]; exact Nat.le_refl _
    · have := cw_mono L (i := i) (j := j) (by omega)
      show cw L i ≤ cw L j + _
      omega
theorem pw_mono (ps : List Pm) {i : Nat} : ∀ {j : Nat}, i ≤ j → pw ps i ≤ pw ps j
  | 0, h => by rw [show i = 0 by omega]; exact Nat.le_refl _
  | j + 1, h => by
    by_cases hij : i = j + 1
    · rw [hij]; exact Nat.le_refl _
    · have := pw_mono ps (i := i) (j := j) (by omega)
      show pw ps i ≤ pw ps j + _
      omega
theorem rP_take (loose bare : Bool) (ps : List Pm) {j : Nat} (h : j < ps.length) : rP loose bare true (ps.take (j + 1)) = rP loose bare true (ps.take j) ++ ((if j = 0 then aftT loose else sepT loose) ++ oneP loose bare (pn ps j, pv ps j)) := by
  rw [List.take_succ_eq_append_getElem h, rP_snoc]
  have e1 : (true && (ps.take j).isEmpty) = decide (j = 0) := by
    cases j with
    | zero => simp
    | succ j => cases ps with
      | nil => simp at h
      | cons x xs => simp
  have e2 : ps[j] = (pn ps j, pv ps j) := by simp [pn, pv, List.getD, h]
  rw [e1, e2]
  simp
theorem one_okS (x : ByteArray) : ∀ u ∈ [Value.string x], u.oneCell' = true := by
  intro u hu; simp at hu; subst hu; rfl
theorem own_block_lt {B n : Nat} {e : TypeId} {sz : Nat} {w : World} {v : Value} {xs : List Value} (h : w.ownsRow B e sz v n xs) : ∀ k, v.ownBlock = some k → k < w.heap.size := by
  intro k hk
  rcases h.2 with ⟨rfl, _⟩ | ⟨g, cap, cur, rfl, hb, hg, _⟩
  · simp [Value.ownBlock] at hk
  · simp [Value.ownBlock] at hk; rw [← hk]; exact lt_of_heap hg
theorem own_low {w w' : World} {B Bc n : Nat} {e : TypeId} {sz : Nat} {v : Value} {xs : List Value} (h : w.ownsRow B e sz v n xs) (hl : ∀ k, v.ownBlock = some k → k < Bc) (hb : Below Bc w w') : w'.ownsRow B e sz v n xs := by
  rcases h.2 with ⟨rfl, h0⟩ | ⟨g, cap, cur, rfl, hb', hg, hnc, hcm, hcs, htk⟩
  · exact ⟨h.1, Or.inl ⟨rfl, h0⟩⟩
  · exact ⟨h.1, Or.inr ⟨_, _, cur, rfl, hb', by rw [hb.block _ (hl g (by simp [Value.ownBlock]))]; exact hg, hnc, hcm, hcs, htk⟩⟩

/-- The same ahead of the i-th challenge's scheme: cur has its separator. -/
def RMid (loose bare : Bool) (w wr : World) (L : List Ch) (i Bc : Nat) (gs : List (List Ch)) (gr : List Ch) (hv cv : Value) : Prop :=
  (gs.flatten ++ gr = L.take i ∧ ∀ x ∈ gs, (rC loose bare true x).length ≤ 131072) ∧ wr.ownsRow w.heap.size 9 1 hv gs.length (gs.map fun x => .string ⟨(rC loose bare true x).toArray⟩) ∧ (∀ k, hv.ownBlock = some k → k < Bc) ∧
    wr.ownsRow Bc 5 1 cv (rC loose bare true gr ++ (if gr.isEmpty then [] else sepT loose)).length (Lib.byteCells (rC loose bare true gr ++ (if gr.isEmpty then [] else sepT loose)))
theorem RSt.mid0 {loose bare : Bool} {w wr : World} {L : List Ch} {Bc : Nat} {gs : List (List Ch)} {gr : List Ch} {hv cv : Value} (h : RSt loose bare w wr L 0 Bc gs gr hv cv) : RMid loose bare w wr L 0 Bc gs gr hv cv := by
  obtain ⟨h1, _, h3, h4, h5⟩ := h
  have hgr : gr = [] := by
    have h0 := h1.1
    rw [List.take_zero] at h0
    exact (List.append_eq_nil_iff.1 h0).2
  subst hgr
  exact ⟨h1, h3, h4, by simpa using h5⟩

set_option maxHeartbeats 6400000 in
set_option maxRecDepth 100000 in
theorem render_any (v : Value) (L : List Ch) (V : Nat → Value) (loose bare : Bool) (w : World) (hC : Chl w v L V) (hn : L.length ≤ 65536) (hcw : cw L L.length ≤ 65536) :
    Calls Tryd.prog 9 #[v, .bool loose, .bool bare] w fun e w' => ∃ (v' : Value) (gs : List (List Ch)), e = .returned v' ∧ Hid (gs.flatten = L ∧ w'.ownsRow w.heap.size 9 1 v' gs.length (gs.map fun x => .string ⟨(rC loose bare true x).toArray⟩) ∧ ∀ x ∈ gs, (rC loose bare true x).length ≤ 131072) ∧ Below w.heap.size w w' := by
  obtain ⟨i0, hi5, hz0, hz1, hz2⟩ := info_parts Tryd.info5
  obtain ⟨i9, hi9, hy0, hy1, hy2⟩ := info_parts Tryd.info9
  obtain ⟨⟨ao, cap, rfl, hn0, hc0⟩, hp0⟩ := hC
  have HC : Hid (0 < L.length → ∃ b off, ao = some ⟨b, off, none⟩ ∧ b < w.heap.size ∧ ∀ i, i < L.length → w.cell? ⟨b, off + i * 3, none⟩ = some (.string (cg L i).sch) ∧ w.cell? ⟨b, off + i * 3 + 1, none⟩ = some (V i) ∧ w.cell? ⟨b, off + i * 3 + 2, none⟩ = some (.bool (cg L i).nh)) := hc0
  have HP0 : Hid (∀ i, i < L.length → Prm w (V i) (cg L i).ps) := hp0
  have HCW : Hid (cw L L.length ≤ 65536) := hcw
  clear hc0 hp0 hn0 hcw
  generalize hlen : L.length = n at *
  have HLen : Hid (L.length = n) := hlen
  clear hlen
  cases loose with
  | true =>
    go_enter Tryd.func9, Tryd.ntmps9
    go_wp2
    go_loopg [11, 12, 13] n (fun g hv cv iv wr => ∃ (i Bc : Nat) (gs : List (List Ch)) (gr : List Ch), i ≤ n ∧ i + g = n ∧ w.heap.size ≤ Bc ∧ Bc ≤ wr.heap.size ∧ (rC true bare true gr).length ≤ 2 * cw L i ∧ gs.length ≤ i - 1 ∧ iv = .int .i64 i ∧ Hid (RSt true bare w wr L i Bc gs gr hv cv) ∧ Below w.heap.size w wr)
    case atStart => exact ⟨0, w.heap.size, [], [], Nat.zero_le _, by omega, Nat.le_refl _, Nat.le_refl _, by simp [rC], by simp, rfl, RSt.start, Below.refl _ _⟩
    case round =>
      obtain ⟨i, Bc, gs, gr, hi, hig, hB0, hBw, hlen, hgl, rfl, HR, hbel⟩ := hrel
      by_cases hlt : i < n
      · obtain ⟨gO, rfl⟩ : ∃ g, gk = g + 1 := ⟨gk - 1, by omega⟩
        obtain ⟨b, off, hao, hb, hcell0⟩ := HC.out (by omega)
        obtain ⟨c1w, c2w, c3w⟩ := hcell0 i hlt
        obtain ⟨pa, pc, hpv, hpn, hpc⟩ := HP0.out i hlt
        rw [hpv] at c2w
        have c1 := (hbel.cell (p := ⟨b, off + i * 3, none⟩) hb).trans c1w
        have c3 := (hbel.cell (p := ⟨b, off + i * 3 + 2, none⟩) hb).trans c3w
        clear hcell0 hpv
        subst hao
        have hcwi : cw L i ≤ 65536 := Nat.le_trans (cw_mono L hi) HCW.out
        have hSS : (⟨#[32, 44, 9, 44, 32]⟩ : ByteArray).size ≤ 5 := by decide
        have hAS : (⟨#[32, 9, 32]⟩ : ByteArray).size ≤ 5 := by decide
        have hES : (⟨#[32, 61, 32]⟩ : ByteArray).size ≤ 3 := by decide
        go_upto_if 24 with fail
        go_cut [11, 12] from 17 to 96 (fun hv cv wx => ∃ (Bc : Nat) (gs : List (List Ch)) (gr : List Ch), w.heap.size ≤ Bc ∧ Bc ≤ wx.heap.size ∧ (rC true bare true gr).length ≤ 2 * cw L i ∧ gs.length ≤ i ∧ Hid (RMid true bare w wx L i Bc gs gr hv cv) ∧ Below w.heap.size w wx)
        case first =>
          by_cases hi0 : i = 0
          · subst hi0
            go_wp2
            go_meet
            exact ⟨Bc, gs, gr, hB0, hBw, hlen, by omega, HR.out.mid0, hbel⟩
          · have hib : decide ((0 : Int) < (i : Int)) = true := by simp; omega
            cases hnh : (cg L i).nh with
            | true =>
              rw [hnh] at c3
              obtain ⟨r1, r2, r3, r4, r5⟩ := HR.out
              have hcv := conv_back r5
              have HR1 : Hid (gs.flatten ++ gr = L.take i) := r1.1
              have HRB : Hid (∀ x ∈ gs, (rC true bare true x).length ≤ 131072) := r1.2
              clear r1 r2 r4 r5
              go_wp2_with (at_builtin; refine wpList_append_own _ rfl (.tmp 30) (.tmp 33) 29 rfl w.heap.size 9 i9 (.string ⟨#[]⟩) 1 16 Tryd.underlying29 hi9 hy0 hy1 hy2 rfl (by decide) _ _ _ rfl (r3.alloc _) ⟨wr.heap.size, 0, none⟩ 1 1 [.string ⟨(rC true bare true gr).toArray⟩] rfl rfl (cell_one_new _ _ _) (one_okS _) (by unfold maxLen; omega) (by omega) (by simp; omega) ?_; intro v4 w4 hown4 hg4 hnn; clear hnn)
              have hb4 : Below w.heap.size w w4 := (hbel.alloc (by omega) _).grown hg4 (by simp; omega) (own_ge r3)
              go_meet
              exact ⟨w4.heap.size, gs ++ [gr], [], hb4.size, Nat.le_refl _, by simp [rC], by simp; omega, ⟨⟨by simp [← HR1.out], fun x hx => (List.mem_append.1 hx).elim (HRB.out x) (fun h => by simp only [List.mem_singleton] at h; subst h; omega)⟩, by simpa using hown4, own_block_lt hown4, by simpa [rC, Lib.byteCells] using own_nil w4 w4.heap.size 5⟩, hb4⟩
            | false =>
              rw [hnh] at c3
              obtain ⟨r1, r2, r3, r4, r5⟩ := HR.out
              have hne : gr.isEmpty = false := by
                have := r2 (by omega)
                cases gr with
                | nil => exact absurd rfl this
                | cons x xs => rfl
              have HR1 : Hid (gs.flatten ++ gr = L.take i) := r1.1
              have HRB : Hid (∀ x ∈ gs, (rC true bare true x).length ≤ 131072) := r1.2
              have HR3 : Hid (wr.ownsRow w.heap.size 9 1 _ gs.length (gs.map fun x => .string ⟨(rC true bare true x).toArray⟩)) := r3
              have HR4 : Hid (∀ k, _ → k < Bc) := r4
              have HNE : Hid (gr.isEmpty = false) := hne
              clear r1 r2 r3 r4 hne
              go_wp2_with (at_builtin; refine Lib.wpList_append_own_string _ rfl (.tmp 35) (.tmp 36) 46 9 rfl Bc 5 i0 Tryd.underlying46 Tryd.underlying9 hi5 hz0 hz1 hz2 _ _ _ rfl r5 ⟨#[32, 44, 9, 44, 32]⟩ rfl (by unfold maxLen; omega) (by omega) (by omega) ?_; intro v4 w4 hown4 hg4 hnn; clear hnn)
              have R4 := step_text ⟨#[32, 44, 9, 44, 32]⟩ (Below.refl Bc wr) hBw rfl r5 hown4 hg4
              go_meet
              exact ⟨Bc, gs, gr, hB0, Nat.le_trans hBw R4.2.size, hlen, by omega, ⟨⟨HR1.out, HRB.out⟩, own_low HR3.out HR4.out R4.2, HR4.out, by rw [HNE.out]; exact R4.1⟩, hbel.trans (R4.2.mono hB0)⟩
        case rest =>
          obtain ⟨wm, rfl⟩ : ∃ x, x = wc := ⟨wc, rfl⟩
          clear HR hbel hB0 hBw hlen hgl c1 c3
          obtain ⟨Bc, gs, gr, hB0, hBw, hlen, hgl, HR, hbel⟩ := hcut
          obtain ⟨r1, r3, r4, r5⟩ := HR.out
          have HR1 : Hid (gs.flatten ++ gr = L.take i) := r1.1
          have HRB : Hid (∀ x ∈ gs, (rC true bare true x).length ≤ 131072) := r1.2
          have HR3 : Hid (wm.ownsRow w.heap.size 9 1 _ gs.length (gs.map fun x => .string ⟨(rC true bare true x).toArray⟩)) := r3
          have HR4 : Hid (∀ k, _ → k < Bc) := r4
          have c1 := (hbel.cell (p := ⟨b, off + i * 3, none⟩) hb).trans c1w
          have hsl := sepT_len true
          have hml : (rC true bare true gr ++ (if gr.isEmpty then [] else sepT true)).length ≤ 2 * cw L i + 5 := by
            rw [List.length_append]
            split
            · simp; omega
            · omega
          have hcwn : cw L i + ((cg L i).sch.size + 48 + pw (cg L i).ps (cg L i).ps.length) ≤ 65536 := Nat.le_trans (cw_mono L (i := i + 1) hlt) HCW.out
          clear r1 r3 r4 HR
          generalize hm : rC true bare true gr ++ (if gr.isEmpty then [] else sepT true) = m at *
          have HM : Hid (rC true bare true gr ++ (if gr.isEmpty then [] else sepT true) = m) := hm
          clear hm
          have c2c := (hbel.cell (p := ⟨b, off + i * 3 + 1, none⟩) hb).trans c2w
          have hbB : b < Bc := by omega
          go_wp2_with (at_builtin; refine Lib.wpList_append_own_string _ rfl (.tmp 38) (.tmp 43) 46 9 rfl Bc 5 i0 Tryd.underlying46 Tryd.underlying9 hi5 hz0 hz1 hz2 _ _ _ rfl r5 (cg L i).sch rfl (by unfold maxLen; omega) (by omega) (by omega) ?_; intro v4 w4 hown4 hg4 hnn; clear hnn; have R4 := step_text (cg L i).sch (Below.refl Bc wm) hBw rfl r5 hown4 hg4; have c2 := (R4.2.cell (p := ⟨b, off + i * 3 + 1, none⟩) hbB).trans c2c; clear hown4 hg4)
          have hml1 : (m ++ (cg L i).sch.data.toList).length ≤ 2 * cw L i + 5 + (cg L i).sch.size := by simp; omega
          obtain ⟨R41, R42⟩ := R4
          generalize hm1 : m ++ (cg L i).sch.data.toList = m1 at *
          have HM1 : Hid (m ++ (cg L i).sch.data.toList = m1) := hm1
          have HPC : Hid (0 < (cg L i).ps.length → ∃ b off, pa = some ⟨b, off, none⟩ ∧ b < w.heap.size ∧ ∀ j, j < (cg L i).ps.length → w.cell? ⟨b, off + j * 2, none⟩ = some (.string (pn (cg L i).ps j)) ∧ w.cell? ⟨b, off + j * 2 + 1, none⟩ = some (.string (pv (cg L i).ps j))) := hpc
          have H41 : Hid (w4.ownsRow Bc 5 1 v4 m1.length (Lib.byteCells m1)) := R41
          clear hm1 hpc c1 c2 c2c r5 R41
          go_loopg [12, 15] (cg L i).ps.length (fun g cv jv wr => ∃ j : Nat, j + g = (cg L i).ps.length ∧ jv = .int .i64 j ∧ (rP true bare true ((cg L i).ps.take j)).length ≤ 2 * pw (cg L i).ps j ∧ Hid (wr.ownsRow Bc 5 1 cv (m1 ++ rP true bare true ((cg L i).ps.take j)).length (Lib.byteCells (m1 ++ rP true bare true ((cg L i).ps.take j)))) ∧ Below Bc wm wr)
          case atStart => exact ⟨0, by omega, rfl, by simp [rP], (by simp only [rP, List.take_zero, List.append_nil]; exact H41), R42⟩
          case round =>
            clear H41 R42
            obtain ⟨j, hjg, rfl, hpl, HO, hbj⟩ := hrel
            by_cases hjlt : j < (cg L i).ps.length
            · obtain ⟨b2, off2, hpa, hb2, hc20⟩ := HPC.out (by omega)
              have d1w := (hbel.cell (p := ⟨b2, off2 + j * 2, none⟩) hb2).trans (hc20 j hjlt).1
              have d2w := (hbel.cell (p := ⟨b2, off2 + j * 2 + 1, none⟩) hb2).trans (hc20 j hjlt).2
              have hb2B : b2 < Bc := by omega
              have HPS : Hid (rP true bare true ((cg L i).ps.take (j + 1)) = rP true bare true ((cg L i).ps.take j) ++ ((if j = 0 then aftT true else sepT true) ++ oneP true bare (pn (cg L i).ps j, pv (cg L i).ps j))) := rP_take true bare (cg L i).ps hjlt
              have hpwm : pw (cg L i).ps j + ((pn (cg L i).ps j).size + (pv (cg L i).ps j).size + 32) ≤ pw (cg L i).ps (cg L i).ps.length := pw_mono (cg L i).ps (i := j + 1) hjlt
              have hML : (m1 ++ rP true bare true ((cg L i).ps.take j)).length ≤ 2 * cw L i + 5 + (cg L i).sch.size + 2 * pw (cg L i).ps j := by rw [List.length_append]; omega
              have hbjs := hbj.size
              clear hc20
              subst hpa
              have HO' := HO.out
              generalize hMd : m1 ++ rP true bare true ((cg L i).ps.take j) = M at *
              have HMD : Hid (m1 ++ rP true bare true ((cg L i).ps.take j) = M) := hMd
              clear hMd
              go_upto_if 57 with fail
              go_cut [12] from 50 to 96 (fun cv wx => Hid (wx.ownsRow Bc 5 1 cv (M ++ (if j = 0 then aftT true else sepT true)).length (Lib.byteCells (M ++ (if j = 0 then aftT true else sepT true)))) ∧ Below Bc wm wx)
              case first =>
                by_cases hj0 : j = 0
                · subst hj0
                  go_wp2_with (at_builtin; refine Lib.wpList_append_own_string _ rfl (.tmp 58) (.tmp 59) 46 9 rfl Bc 5 i0 Tryd.underlying46 Tryd.underlying9 hi5 hz0 hz1 hz2 _ _ _ rfl HO' ⟨#[32, 9, 32]⟩ rfl (by unfold maxLen; omega) (by omega) (by omega) ?_; intro v5 w5 hown5 hg5 hnn; clear hnn; have R5 := step_text ⟨#[32, 9, 32]⟩ hbj (by omega) rfl HO' hown5 hg5; clear hown5 hg5)
                  go_meet
                  exact ⟨R5.1, R5.2⟩
                · have hjb : ((j : Int) == 0) = false := by rw [beq_eq_false_iff_ne]; omega
                  go_wp2_with (at_builtin; refine Lib.wpList_append_own_string _ rfl (.tmp 61) (.tmp 62) 46 9 rfl Bc 5 i0 Tryd.underlying46 Tryd.underlying9 hi5 hz0 hz1 hz2 _ _ _ rfl HO' ⟨#[32, 44, 9, 44, 32]⟩ rfl (by unfold maxLen; omega) (by omega) (by omega) ?_; intro v5 w5 hown5 hg5 hnn; clear hnn; have R5 := step_text ⟨#[32, 44, 9, 44, 32]⟩ hbj (by omega) rfl HO' hown5 hg5; clear hown5 hg5)
                  go_meet
                  exact ⟨by rw [if_neg hj0]; exact R5.1, R5.2⟩
              case rest =>
                obtain ⟨HO2, hbm⟩ := hcut
                have HO2' := HO2.out
                have hal := aftT_len true
                have hspl : (if j = 0 then aftT true else sepT true).length ≤ 5 := by split <;> omega
                have hM2 : (M ++ (if j = 0 then aftT true else sepT true)).length ≤ M.length + 5 := by rw [List.length_append]; omega
                have hbms := hbm.size
                have d1 := (hbm.cell (p := ⟨b2, off2 + j * 2, none⟩) hb2B).trans d1w
                generalize hM2d : M ++ (if j = 0 then aftT true else sepT true) = M2 at *
                have HM2D : Hid (M ++ (if j = 0 then aftT true else sepT true) = M2) := hM2d
                clear hM2d HO HO' hbj
                have HEQ : Hid (m1 ++ rP true bare true ((cg L i).ps.take (j + 1)) = ((M2 ++ (pn (cg L i).ps j).data.toList) ++ (⟨#[32, 61, 32]⟩ : ByteArray).data.toList) ++ valT bare (pv (cg L i).ps j)) := by
                  show _ = _
                  rw [HPS.out, ← HM2D.out, ← HMD.out]
                  simp [oneP, eqT]
                have hLEN : (rP true bare true ((cg L i).ps.take (j + 1))).length ≤ 2 * pw (cg L i).ps (j + 1) := by
                  have h1 := oneP_len true bare (pn (cg L i).ps j, pv (cg L i).ps j)
                  show _ ≤ 2 * (pw (cg L i).ps j + ((pn (cg L i).ps j).size + (pv (cg L i).ps j).size + 32))
                  rw [HPS.out, List.length_append, List.length_append]
                  simp only at h1
                  omega
                have HLN : Hid ((rP true bare true ((cg L i).ps.take (j + 1))).length ≤ 2 * pw (cg L i).ps (j + 1)) := hLEN
                obtain ⟨g, rfl⟩ : ∃ g, gk = g + 1 := ⟨gk - 1, by omega⟩
                have hE3 : (⟨#[32, 61, 32]⟩ : ByteArray).data.toList.length ≤ 3 := by decide
                clear hLEN
                cases bare with
                | false =>
                  go_wp2_with (first
                    | (at_builtin; refine Lib.wpList_append_own_string _ rfl (.tmp 64) (.tmp 69) 46 9 rfl Bc 5 i0 Tryd.underlying46 Tryd.underlying9 hi5 hz0 hz1 hz2 _ _ _ rfl HO2' (pn (cg L i).ps j) rfl (by unfold maxLen; omega) (by omega) (by omega) ?_; intro v6 w6 hown6 hg6 hnn; clear hnn; have R6 := step_text (pn (cg L i).ps j) hbm (by omega) rfl HO2' hown6 hg6; have l6 : (M2 ++ (pn (cg L i).ps j).data.toList).length = M2.length + (pn (cg L i).ps j).size := (by simp); have s6 := R6.2.size; clear hown6 hg6)
                    | (at_builtin; refine Lib.wpList_append_own_string _ rfl (.tmp 71) (.tmp 72) 46 9 rfl Bc 5 i0 Tryd.underlying46 Tryd.underlying9 hi5 hz0 hz1 hz2 _ _ _ rfl R6.1 ⟨#[32, 61, 32]⟩ rfl (by unfold maxLen; omega) (by omega) (by omega) ?_; intro v7 w7 hown7 hg7 hnn; clear hnn; have R7 := step_text ⟨#[32, 61, 32]⟩ R6.2 (by omega) rfl R6.1 hown7 hg7; have s7 := R7.2.size; have d2 := (R7.2.cell (p := ⟨b2, off2 + j * 2 + 1, none⟩) hb2B).trans d2w; clear hown7 hg7))
                  refine (appendQ_any Bc v7 _ (pv (cg L i).ps j) w7 R7.1 (by omega) (by rw [List.length_append]; omega) (by omega)).mono ?_
                  rintro e w8 ⟨v8, rfl, hq8, hb8⟩
                  go_wp2
                  go_roundg g
                  case measure => omega
                  case rel => exact ⟨j + 1, by omega, by go_num, HLN.out, (by rw [HEQ.out]; exact hq8), R7.2.trans hb8⟩
                | true =>
                  go_wp2_with (first
                    | (at_builtin; refine Lib.wpList_append_own_string _ rfl (.tmp 64) (.tmp 69) 46 9 rfl Bc 5 i0 Tryd.underlying46 Tryd.underlying9 hi5 hz0 hz1 hz2 _ _ _ rfl HO2' (pn (cg L i).ps j) rfl (by unfold maxLen; omega) (by omega) (by omega) ?_; intro v6 w6 hown6 hg6 hnn; clear hnn; have R6 := step_text (pn (cg L i).ps j) hbm (by omega) rfl HO2' hown6 hg6; have l6 : (M2 ++ (pn (cg L i).ps j).data.toList).length = M2.length + (pn (cg L i).ps j).size := (by simp); have s6 := R6.2.size; clear hown6 hg6)
                    | (at_builtin; refine Lib.wpList_append_own_string _ rfl (.tmp 71) (.tmp 72) 46 9 rfl Bc 5 i0 Tryd.underlying46 Tryd.underlying9 hi5 hz0 hz1 hz2 _ _ _ rfl R6.1 ⟨#[32, 61, 32]⟩ rfl (by unfold maxLen; omega) (by omega) (by omega) ?_; intro v7 w7 hown7 hg7 hnn; clear hnn; have R7 := step_text ⟨#[32, 61, 32]⟩ R6.2 (by omega) rfl R6.1 hown7 hg7; have s7 := R7.2.size; have d2 := (R7.2.cell (p := ⟨b2, off2 + j * 2 + 1, none⟩) hb2B).trans d2w; clear hown7 hg7))
                  refine (isTokenString_any (pv (cg L i).ps j) _ (by unfold maxLen; omega)).mono ?_
                  rintro e w8 ⟨⟨rfl, hnt⟩ | ⟨rfl, ht⟩, rfl⟩
                  · have HVV : Hid (valT true (pv (cg L i).ps j) = qt (pv (cg L i).ps j)) := by
                      show _ = _
                      simp [valT, tokB_no hnt.out]
                    go_wp2_with fail
                    refine (appendQ_any Bc v7 _ (pv (cg L i).ps j) _ R7.1 (by omega) (by rw [List.length_append]; omega) (by omega)).mono ?_
                    rintro e w9 ⟨v9, rfl, hq9, hb9⟩
                    go_wp2
                    go_roundg g
                    case measure => omega
                    case rel => exact ⟨j + 1, by omega, by go_num, HLN.out, (by rw [HEQ.out, HVV.out]; exact hq9), R7.2.trans hb9⟩
                  · have HVV : Hid (valT true (pv (cg L i).ps j) = (pv (cg L i).ps j).data.toList) := by
                      show _ = _
                      simp [valT, (tokB_iff _).2 ht.out]
                    have l7 : ((M2 ++ (pn (cg L i).ps j).data.toList) ++ (⟨#[32, 61, 32]⟩ : ByteArray).data.toList).length ≤ M2.length + (pn (cg L i).ps j).size + 3 := by
                      have hE4 : (⟨#[32, 61, 32]⟩ : ByteArray).data.toList.length ≤ 3 := by decide
                      rw [List.length_append, List.length_append]
                      have hE5 : (pn (cg L i).ps j).data.toList.length = (pn (cg L i).ps j).size := by simp
                      omega
                    go_wp2_with (at_builtin; refine Lib.wpList_append_own_string _ rfl (.tmp 83) (.tmp 88) 46 9 rfl Bc 5 i0 Tryd.underlying46 Tryd.underlying9 hi5 hz0 hz1 hz2 _ _ _ rfl R7.1 (pv (cg L i).ps j) rfl (by unfold maxLen; omega) (by omega) (by omega) ?_; intro v9 w9 hown9 hg9 hnn; clear hnn; have R9 := step_text (pv (cg L i).ps j) R7.2 (by omega) rfl R7.1 hown9 hg9; clear hown9 hg9)
                    go_roundg g
                    case measure => omega
                    case rel => exact ⟨j + 1, by omega, by go_num, HLN.out, (by rw [HEQ.out, HVV.out]; exact R9.1), R9.2⟩
            · obtain rfl : j = (cg L i).ps.length := by omega
              rw [List.take_length] at hpl HO
              have HRC : Hid (rC true bare true (gr ++ [cg L i]) = m1 ++ rP true bare true (cg L i).ps) := by
                show _ = _
                rw [rC_snoc, ← HM1.out, ← HM.out]
                simp
              have HTK : Hid ((gs.flatten ++ (gr ++ [cg L i])) = L.take (i + 1)) := by
                show _ = _
                rw [List.take_succ_eq_append_getElem (by rw [HLen.out]; exact hlt), ← HR1.out]
                have e2 : L[i]'(by rw [HLen.out]; exact hlt) = cg L i := by simp [cg, List.getD, HLen.out, hlt]
                rw [e2]; simp
              have hLN : (rC true bare true (gr ++ [cg L i])).length ≤ 2 * cw L (i + 1) := by
                rw [HRC.out, List.length_append]
                show _ ≤ 2 * (cw L i + ((cg L i).sch.size + 48 + pw (cg L i).ps (cg L i).ps.length))
                omega
              have HLN : Hid ((rC true bare true (gr ++ [cg L i])).length ≤ 2 * cw L (i + 1)) := hLN
              have hbjs := hbj.size
              clear hLN
              go_wp2
              go_roundg gO
              case measure => omega
              case rel => exact ⟨i + 1, Bc, gs, gr ++ [cg L i], by omega, by omega, hB0, by omega, HLN.out, by omega, by go_num, ⟨⟨HTK.out, HRB.out⟩, fun _ => by simp, own_low HR3.out HR4.out hbj, HR4.out, by rw [HRC.out]; exact HO.out⟩, hbel.trans (hbj.mono hB0)⟩
      · obtain rfl : n = i := by omega
        obtain ⟨r1, r2, r3, r4, r5⟩ := HR.out
        have HR1 : Hid (gs.flatten ++ gr = L) := by
          show _ = _
          rw [r1.1, List.take_of_length_le (by rw [HLen.out]; exact Nat.le_refl _)]
        have HRB : Hid (∀ x ∈ gs, (rC true bare true x).length ≤ 131072) := r1.2
        have hcwi : cw L n ≤ 65536 := HCW.out
        by_cases hn0 : n = 0
        · subst hn0
          have hgs : gs = [] := List.eq_nil_of_length_eq_zero (by omega)
          subst hgs
          have HG : Hid (L = []) := List.eq_nil_of_length_eq_zero HLen.out
          have HR3 : Hid (wr.ownsRow w.heap.size 9 1 _ 0 []) := r3
          clear r1 r2 r3 r4 r5
          go_wp2
          go_ret
          exact ⟨_, [], rfl, ⟨by rw [HG.out]; rfl, HR3.out, fun x hx => by simp at hx⟩, hbel⟩
        · have hnb : decide ((0 : Int) < (n : Int)) = true := by simp; omega
          have hcv := conv_back r5
          clear r1 r2 r4 r5
          go_wp2_with (at_builtin; refine wpList_append_own _ rfl (.tmp 100) (.tmp 103) 29 rfl w.heap.size 9 i9 (.string ⟨#[]⟩) 1 16 Tryd.underlying29 hi9 hy0 hy1 hy2 rfl (by decide) _ _ _ rfl (r3.alloc _) ⟨wr.heap.size, 0, none⟩ 1 1 [.string ⟨(rC true bare true gr).toArray⟩] rfl rfl (cell_one_new _ _ _) (one_okS _) (by unfold maxLen; omega) (by omega) (by simp; omega) ?_; intro v4 w4 hown4 hg4 hnn; clear hnn)
          have hb4 : Below w.heap.size w w4 := (hbel.alloc (by omega) _).grown hg4 (by simp; omega) (own_ge r3)
          go_ret
          exact ⟨v4, gs ++ [gr], rfl, ⟨by simp [← HR1.out], by simpa using hown4, fun x hx => (List.mem_append.1 hx).elim (HRB.out x) (fun h => by simp only [List.mem_singleton] at h; subst h; omega)⟩, hb4⟩
  | false =>
    go_enter Tryd.func9, Tryd.ntmps9
    go_wp2
    go_loopg [11, 12, 13] n (fun g hv cv iv wr => ∃ (i Bc : Nat) (gs : List (List Ch)) (gr : List Ch), i ≤ n ∧ i + g = n ∧ w.heap.size ≤ Bc ∧ Bc ≤ wr.heap.size ∧ (rC false bare true gr).length ≤ 2 * cw L i ∧ gs.length ≤ i - 1 ∧ iv = .int .i64 i ∧ Hid (RSt false bare w wr L i Bc gs gr hv cv) ∧ Below w.heap.size w wr)
    case atStart => exact ⟨0, w.heap.size, [], [], Nat.zero_le _, by omega, Nat.le_refl _, Nat.le_refl _, by simp [rC], by simp, rfl, RSt.start, Below.refl _ _⟩
    case round =>
      obtain ⟨i, Bc, gs, gr, hi, hig, hB0, hBw, hlen, hgl, rfl, HR, hbel⟩ := hrel
      by_cases hlt : i < n
      · obtain ⟨gO, rfl⟩ : ∃ g, gk = g + 1 := ⟨gk - 1, by omega⟩
        obtain ⟨b, off, hao, hb, hcell0⟩ := HC.out (by omega)
        obtain ⟨c1w, c2w, c3w⟩ := hcell0 i hlt
        obtain ⟨pa, pc, hpv, hpn, hpc⟩ := HP0.out i hlt
        rw [hpv] at c2w
        have c1 := (hbel.cell (p := ⟨b, off + i * 3, none⟩) hb).trans c1w
        have c3 := (hbel.cell (p := ⟨b, off + i * 3 + 2, none⟩) hb).trans c3w
        clear hcell0 hpv
        subst hao
        have hcwi : cw L i ≤ 65536 := Nat.le_trans (cw_mono L hi) HCW.out
        have hSS : (⟨#[44, 32]⟩ : ByteArray).size ≤ 5 := by decide
        have hAS : (⟨#[32]⟩ : ByteArray).size ≤ 5 := by decide
        have hES : (⟨#[61]⟩ : ByteArray).size ≤ 3 := by decide
        go_upto_if 24 with fail
        go_cut [11, 12] from 17 to 96 (fun hv cv wx => ∃ (Bc : Nat) (gs : List (List Ch)) (gr : List Ch), w.heap.size ≤ Bc ∧ Bc ≤ wx.heap.size ∧ (rC false bare true gr).length ≤ 2 * cw L i ∧ gs.length ≤ i ∧ Hid (RMid false bare w wx L i Bc gs gr hv cv) ∧ Below w.heap.size w wx)
        case first =>
          by_cases hi0 : i = 0
          · subst hi0
            go_wp2
            go_meet
            exact ⟨Bc, gs, gr, hB0, hBw, hlen, by omega, HR.out.mid0, hbel⟩
          · have hib : decide ((0 : Int) < (i : Int)) = true := by simp; omega
            cases hnh : (cg L i).nh with
            | true =>
              rw [hnh] at c3
              obtain ⟨r1, r2, r3, r4, r5⟩ := HR.out
              have hcv := conv_back r5
              have HR1 : Hid (gs.flatten ++ gr = L.take i) := r1.1
              have HRB : Hid (∀ x ∈ gs, (rC false bare true x).length ≤ 131072) := r1.2
              clear r1 r2 r4 r5
              go_wp2_with (at_builtin; refine wpList_append_own _ rfl (.tmp 30) (.tmp 33) 29 rfl w.heap.size 9 i9 (.string ⟨#[]⟩) 1 16 Tryd.underlying29 hi9 hy0 hy1 hy2 rfl (by decide) _ _ _ rfl (r3.alloc _) ⟨wr.heap.size, 0, none⟩ 1 1 [.string ⟨(rC false bare true gr).toArray⟩] rfl rfl (cell_one_new _ _ _) (one_okS _) (by unfold maxLen; omega) (by omega) (by simp; omega) ?_; intro v4 w4 hown4 hg4 hnn; clear hnn)
              have hb4 : Below w.heap.size w w4 := (hbel.alloc (by omega) _).grown hg4 (by simp; omega) (own_ge r3)
              go_meet
              exact ⟨w4.heap.size, gs ++ [gr], [], hb4.size, Nat.le_refl _, by simp [rC], by simp; omega, ⟨⟨by simp [← HR1.out], fun x hx => (List.mem_append.1 hx).elim (HRB.out x) (fun h => by simp only [List.mem_singleton] at h; subst h; omega)⟩, by simpa using hown4, own_block_lt hown4, by simpa [rC, Lib.byteCells] using own_nil w4 w4.heap.size 5⟩, hb4⟩
            | false =>
              rw [hnh] at c3
              obtain ⟨r1, r2, r3, r4, r5⟩ := HR.out
              have hne : gr.isEmpty = false := by
                have := r2 (by omega)
                cases gr with
                | nil => exact absurd rfl this
                | cons x xs => rfl
              have HR1 : Hid (gs.flatten ++ gr = L.take i) := r1.1
              have HRB : Hid (∀ x ∈ gs, (rC false bare true x).length ≤ 131072) := r1.2
              have HR3 : Hid (wr.ownsRow w.heap.size 9 1 _ gs.length (gs.map fun x => .string ⟨(rC false bare true x).toArray⟩)) := r3
              have HR4 : Hid (∀ k, _ → k < Bc) := r4
              have HNE : Hid (gr.isEmpty = false) := hne
              clear r1 r2 r3 r4 hne
              go_wp2_with (at_builtin; refine Lib.wpList_append_own_string _ rfl (.tmp 35) (.tmp 36) 46 9 rfl Bc 5 i0 Tryd.underlying46 Tryd.underlying9 hi5 hz0 hz1 hz2 _ _ _ rfl r5 ⟨#[44, 32]⟩ rfl (by unfold maxLen; omega) (by omega) (by omega) ?_; intro v4 w4 hown4 hg4 hnn; clear hnn)
              have R4 := step_text ⟨#[44, 32]⟩ (Below.refl Bc wr) hBw rfl r5 hown4 hg4
              go_meet
              exact ⟨Bc, gs, gr, hB0, Nat.le_trans hBw R4.2.size, hlen, by omega, ⟨⟨HR1.out, HRB.out⟩, own_low HR3.out HR4.out R4.2, HR4.out, by rw [HNE.out]; exact R4.1⟩, hbel.trans (R4.2.mono hB0)⟩
        case rest =>
          obtain ⟨wm, rfl⟩ : ∃ x, x = wc := ⟨wc, rfl⟩
          clear HR hbel hB0 hBw hlen hgl c1 c3
          obtain ⟨Bc, gs, gr, hB0, hBw, hlen, hgl, HR, hbel⟩ := hcut
          obtain ⟨r1, r3, r4, r5⟩ := HR.out
          have HR1 : Hid (gs.flatten ++ gr = L.take i) := r1.1
          have HRB : Hid (∀ x ∈ gs, (rC false bare true x).length ≤ 131072) := r1.2
          have HR3 : Hid (wm.ownsRow w.heap.size 9 1 _ gs.length (gs.map fun x => .string ⟨(rC false bare true x).toArray⟩)) := r3
          have HR4 : Hid (∀ k, _ → k < Bc) := r4
          have c1 := (hbel.cell (p := ⟨b, off + i * 3, none⟩) hb).trans c1w
          have hsl := sepT_len false
          have hml : (rC false bare true gr ++ (if gr.isEmpty then [] else sepT false)).length ≤ 2 * cw L i + 5 := by
            rw [List.length_append]
            split
            · simp; omega
            · omega
          have hcwn : cw L i + ((cg L i).sch.size + 48 + pw (cg L i).ps (cg L i).ps.length) ≤ 65536 := Nat.le_trans (cw_mono L (i := i + 1) hlt) HCW.out
          clear r1 r3 r4 HR
          generalize hm : rC false bare true gr ++ (if gr.isEmpty then [] else sepT false) = m at *
          have HM : Hid (rC false bare true gr ++ (if gr.isEmpty then [] else sepT false) = m) := hm
          clear hm
          have c2c := (hbel.cell (p := ⟨b, off + i * 3 + 1, none⟩) hb).trans c2w
          have hbB : b < Bc := by omega
          go_wp2_with (at_builtin; refine Lib.wpList_append_own_string _ rfl (.tmp 38) (.tmp 43) 46 9 rfl Bc 5 i0 Tryd.underlying46 Tryd.underlying9 hi5 hz0 hz1 hz2 _ _ _ rfl r5 (cg L i).sch rfl (by unfold maxLen; omega) (by omega) (by omega) ?_; intro v4 w4 hown4 hg4 hnn; clear hnn; have R4 := step_text (cg L i).sch (Below.refl Bc wm) hBw rfl r5 hown4 hg4; have c2 := (R4.2.cell (p := ⟨b, off + i * 3 + 1, none⟩) hbB).trans c2c; clear hown4 hg4)
          have hml1 : (m ++ (cg L i).sch.data.toList).length ≤ 2 * cw L i + 5 + (cg L i).sch.size := by simp; omega
          obtain ⟨R41, R42⟩ := R4
          generalize hm1 : m ++ (cg L i).sch.data.toList = m1 at *
          have HM1 : Hid (m ++ (cg L i).sch.data.toList = m1) := hm1
          have HPC : Hid (0 < (cg L i).ps.length → ∃ b off, pa = some ⟨b, off, none⟩ ∧ b < w.heap.size ∧ ∀ j, j < (cg L i).ps.length → w.cell? ⟨b, off + j * 2, none⟩ = some (.string (pn (cg L i).ps j)) ∧ w.cell? ⟨b, off + j * 2 + 1, none⟩ = some (.string (pv (cg L i).ps j))) := hpc
          have H41 : Hid (w4.ownsRow Bc 5 1 v4 m1.length (Lib.byteCells m1)) := R41
          clear hm1 hpc c1 c2 c2c r5 R41
          go_loopg [12, 15] (cg L i).ps.length (fun g cv jv wr => ∃ j : Nat, j + g = (cg L i).ps.length ∧ jv = .int .i64 j ∧ (rP false bare true ((cg L i).ps.take j)).length ≤ 2 * pw (cg L i).ps j ∧ Hid (wr.ownsRow Bc 5 1 cv (m1 ++ rP false bare true ((cg L i).ps.take j)).length (Lib.byteCells (m1 ++ rP false bare true ((cg L i).ps.take j)))) ∧ Below Bc wm wr)
          case atStart => exact ⟨0, by omega, rfl, by simp [rP], (by simp only [rP, List.take_zero, List.append_nil]; exact H41), R42⟩
          case round =>
            clear H41 R42
            obtain ⟨j, hjg, rfl, hpl, HO, hbj⟩ := hrel
            by_cases hjlt : j < (cg L i).ps.length
            · obtain ⟨b2, off2, hpa, hb2, hc20⟩ := HPC.out (by omega)
              have d1w := (hbel.cell (p := ⟨b2, off2 + j * 2, none⟩) hb2).trans (hc20 j hjlt).1
              have d2w := (hbel.cell (p := ⟨b2, off2 + j * 2 + 1, none⟩) hb2).trans (hc20 j hjlt).2
              have hb2B : b2 < Bc := by omega
              have HPS : Hid (rP false bare true ((cg L i).ps.take (j + 1)) = rP false bare true ((cg L i).ps.take j) ++ ((if j = 0 then aftT false else sepT false) ++ oneP false bare (pn (cg L i).ps j, pv (cg L i).ps j))) := rP_take false bare (cg L i).ps hjlt
              have hpwm : pw (cg L i).ps j + ((pn (cg L i).ps j).size + (pv (cg L i).ps j).size + 32) ≤ pw (cg L i).ps (cg L i).ps.length := pw_mono (cg L i).ps (i := j + 1) hjlt
              have hML : (m1 ++ rP false bare true ((cg L i).ps.take j)).length ≤ 2 * cw L i + 5 + (cg L i).sch.size + 2 * pw (cg L i).ps j := by rw [List.length_append]; omega
              have hbjs := hbj.size
              clear hc20
              subst hpa
              have HO' := HO.out
              generalize hMd : m1 ++ rP false bare true ((cg L i).ps.take j) = M at *
              have HMD : Hid (m1 ++ rP false bare true ((cg L i).ps.take j) = M) := hMd
              clear hMd
              go_upto_if 57 with fail
              go_cut [12] from 50 to 96 (fun cv wx => Hid (wx.ownsRow Bc 5 1 cv (M ++ (if j = 0 then aftT false else sepT false)).length (Lib.byteCells (M ++ (if j = 0 then aftT false else sepT false)))) ∧ Below Bc wm wx)
              case first =>
                by_cases hj0 : j = 0
                · subst hj0
                  go_wp2_with (at_builtin; refine Lib.wpList_append_own_string _ rfl (.tmp 58) (.tmp 59) 46 9 rfl Bc 5 i0 Tryd.underlying46 Tryd.underlying9 hi5 hz0 hz1 hz2 _ _ _ rfl HO' ⟨#[32]⟩ rfl (by unfold maxLen; omega) (by omega) (by omega) ?_; intro v5 w5 hown5 hg5 hnn; clear hnn; have R5 := step_text ⟨#[32]⟩ hbj (by omega) rfl HO' hown5 hg5; clear hown5 hg5)
                  go_meet
                  exact ⟨R5.1, R5.2⟩
                · have hjb : ((j : Int) == 0) = false := by rw [beq_eq_false_iff_ne]; omega
                  go_wp2_with (at_builtin; refine Lib.wpList_append_own_string _ rfl (.tmp 61) (.tmp 62) 46 9 rfl Bc 5 i0 Tryd.underlying46 Tryd.underlying9 hi5 hz0 hz1 hz2 _ _ _ rfl HO' ⟨#[44, 32]⟩ rfl (by unfold maxLen; omega) (by omega) (by omega) ?_; intro v5 w5 hown5 hg5 hnn; clear hnn; have R5 := step_text ⟨#[44, 32]⟩ hbj (by omega) rfl HO' hown5 hg5; clear hown5 hg5)
                  go_meet
                  exact ⟨by rw [if_neg hj0]; exact R5.1, R5.2⟩
              case rest =>
                obtain ⟨HO2, hbm⟩ := hcut
                have HO2' := HO2.out
                have hal := aftT_len false
                have hspl : (if j = 0 then aftT false else sepT false).length ≤ 5 := by split <;> omega
                have hM2 : (M ++ (if j = 0 then aftT false else sepT false)).length ≤ M.length + 5 := by rw [List.length_append]; omega
                have hbms := hbm.size
                have d1 := (hbm.cell (p := ⟨b2, off2 + j * 2, none⟩) hb2B).trans d1w
                generalize hM2d : M ++ (if j = 0 then aftT false else sepT false) = M2 at *
                have HM2D : Hid (M ++ (if j = 0 then aftT false else sepT false) = M2) := hM2d
                clear hM2d HO HO' hbj
                have HEQ : Hid (m1 ++ rP false bare true ((cg L i).ps.take (j + 1)) = ((M2 ++ (pn (cg L i).ps j).data.toList) ++ (⟨#[61]⟩ : ByteArray).data.toList) ++ valT bare (pv (cg L i).ps j)) := by
                  show _ = _
                  rw [HPS.out, ← HM2D.out, ← HMD.out]
                  simp [oneP, eqT]
                have hLEN : (rP false bare true ((cg L i).ps.take (j + 1))).length ≤ 2 * pw (cg L i).ps (j + 1) := by
                  have h1 := oneP_len false bare (pn (cg L i).ps j, pv (cg L i).ps j)
                  show _ ≤ 2 * (pw (cg L i).ps j + ((pn (cg L i).ps j).size + (pv (cg L i).ps j).size + 32))
                  rw [HPS.out, List.length_append, List.length_append]
                  simp only at h1
                  omega
                have HLN : Hid ((rP false bare true ((cg L i).ps.take (j + 1))).length ≤ 2 * pw (cg L i).ps (j + 1)) := hLEN
                obtain ⟨g, rfl⟩ : ∃ g, gk = g + 1 := ⟨gk - 1, by omega⟩
                have hE3 : (⟨#[61]⟩ : ByteArray).data.toList.length ≤ 3 := by decide
                clear hLEN
                cases bare with
                | false =>
                  go_wp2_with (first
                    | (at_builtin; refine Lib.wpList_append_own_string _ rfl (.tmp 64) (.tmp 69) 46 9 rfl Bc 5 i0 Tryd.underlying46 Tryd.underlying9 hi5 hz0 hz1 hz2 _ _ _ rfl HO2' (pn (cg L i).ps j) rfl (by unfold maxLen; omega) (by omega) (by omega) ?_; intro v6 w6 hown6 hg6 hnn; clear hnn; have R6 := step_text (pn (cg L i).ps j) hbm (by omega) rfl HO2' hown6 hg6; have l6 : (M2 ++ (pn (cg L i).ps j).data.toList).length = M2.length + (pn (cg L i).ps j).size := (by simp); have s6 := R6.2.size; clear hown6 hg6)
                    | (at_builtin; refine Lib.wpList_append_own_string _ rfl (.tmp 71) (.tmp 72) 46 9 rfl Bc 5 i0 Tryd.underlying46 Tryd.underlying9 hi5 hz0 hz1 hz2 _ _ _ rfl R6.1 ⟨#[61]⟩ rfl (by unfold maxLen; omega) (by omega) (by omega) ?_; intro v7 w7 hown7 hg7 hnn; clear hnn; have R7 := step_text ⟨#[61]⟩ R6.2 (by omega) rfl R6.1 hown7 hg7; have s7 := R7.2.size; have d2 := (R7.2.cell (p := ⟨b2, off2 + j * 2 + 1, none⟩) hb2B).trans d2w; clear hown7 hg7))
                  refine (appendQ_any Bc v7 _ (pv (cg L i).ps j) w7 R7.1 (by omega) (by rw [List.length_append]; omega) (by omega)).mono ?_
                  rintro e w8 ⟨v8, rfl, hq8, hb8⟩
                  go_wp2
                  go_roundg g
                  case measure => omega
                  case rel => exact ⟨j + 1, by omega, by go_num, HLN.out, (by rw [HEQ.out]; exact hq8), R7.2.trans hb8⟩
                | true =>
                  go_wp2_with (first
                    | (at_builtin; refine Lib.wpList_append_own_string _ rfl (.tmp 64) (.tmp 69) 46 9 rfl Bc 5 i0 Tryd.underlying46 Tryd.underlying9 hi5 hz0 hz1 hz2 _ _ _ rfl HO2' (pn (cg L i).ps j) rfl (by unfold maxLen; omega) (by omega) (by omega) ?_; intro v6 w6 hown6 hg6 hnn; clear hnn; have R6 := step_text (pn (cg L i).ps j) hbm (by omega) rfl HO2' hown6 hg6; have l6 : (M2 ++ (pn (cg L i).ps j).data.toList).length = M2.length + (pn (cg L i).ps j).size := (by simp); have s6 := R6.2.size; clear hown6 hg6)
                    | (at_builtin; refine Lib.wpList_append_own_string _ rfl (.tmp 71) (.tmp 72) 46 9 rfl Bc 5 i0 Tryd.underlying46 Tryd.underlying9 hi5 hz0 hz1 hz2 _ _ _ rfl R6.1 ⟨#[61]⟩ rfl (by unfold maxLen; omega) (by omega) (by omega) ?_; intro v7 w7 hown7 hg7 hnn; clear hnn; have R7 := step_text ⟨#[61]⟩ R6.2 (by omega) rfl R6.1 hown7 hg7; have s7 := R7.2.size; have d2 := (R7.2.cell (p := ⟨b2, off2 + j * 2 + 1, none⟩) hb2B).trans d2w; clear hown7 hg7))
                  refine (isTokenString_any (pv (cg L i).ps j) _ (by unfold maxLen; omega)).mono ?_
                  rintro e w8 ⟨⟨rfl, hnt⟩ | ⟨rfl, ht⟩, rfl⟩
                  · have HVV : Hid (valT true (pv (cg L i).ps j) = qt (pv (cg L i).ps j)) := by
                      show _ = _
                      simp [valT, tokB_no hnt.out]
                    go_wp2_with fail
                    refine (appendQ_any Bc v7 _ (pv (cg L i).ps j) _ R7.1 (by omega) (by rw [List.length_append]; omega) (by omega)).mono ?_
                    rintro e w9 ⟨v9, rfl, hq9, hb9⟩
                    go_wp2
                    go_roundg g
                    case measure => omega
                    case rel => exact ⟨j + 1, by omega, by go_num, HLN.out, (by rw [HEQ.out, HVV.out]; exact hq9), R7.2.trans hb9⟩
                  · have HVV : Hid (valT true (pv (cg L i).ps j) = (pv (cg L i).ps j).data.toList) := by
                      show _ = _
                      simp [valT, (tokB_iff _).2 ht.out]
                    have l7 : ((M2 ++ (pn (cg L i).ps j).data.toList) ++ (⟨#[61]⟩ : ByteArray).data.toList).length ≤ M2.length + (pn (cg L i).ps j).size + 3 := by
                      have hE4 : (⟨#[61]⟩ : ByteArray).data.toList.length ≤ 3 := by decide
                      rw [List.length_append, List.length_append]
                      have hE5 : (pn (cg L i).ps j).data.toList.length = (pn (cg L i).ps j).size := by simp
                      omega
                    go_wp2_with (at_builtin; refine Lib.wpList_append_own_string _ rfl (.tmp 83) (.tmp 88) 46 9 rfl Bc 5 i0 Tryd.underlying46 Tryd.underlying9 hi5 hz0 hz1 hz2 _ _ _ rfl R7.1 (pv (cg L i).ps j) rfl (by unfold maxLen; omega) (by omega) (by omega) ?_; intro v9 w9 hown9 hg9 hnn; clear hnn; have R9 := step_text (pv (cg L i).ps j) R7.2 (by omega) rfl R7.1 hown9 hg9; clear hown9 hg9)
                    go_roundg g
                    case measure => omega
                    case rel => exact ⟨j + 1, by omega, by go_num, HLN.out, (by rw [HEQ.out, HVV.out]; exact R9.1), R9.2⟩
            · obtain rfl : j = (cg L i).ps.length := by omega
              rw [List.take_length] at hpl HO
              have HRC : Hid (rC false bare true (gr ++ [cg L i]) = m1 ++ rP false bare true (cg L i).ps) := by
                show _ = _
                rw [rC_snoc, ← HM1.out, ← HM.out]
                simp
              have HTK : Hid ((gs.flatten ++ (gr ++ [cg L i])) = L.take (i + 1)) := by
                show _ = _
                rw [List.take_succ_eq_append_getElem (by rw [HLen.out]; exact hlt), ← HR1.out]
                have e2 : L[i]'(by rw [HLen.out]; exact hlt) = cg L i := by simp [cg, List.getD, HLen.out, hlt]
                rw [e2]; simp
              have hLN : (rC false bare true (gr ++ [cg L i])).length ≤ 2 * cw L (i + 1) := by
                rw [HRC.out, List.length_append]
                show _ ≤ 2 * (cw L i + ((cg L i).sch.size + 48 + pw (cg L i).ps (cg L i).ps.length))
                omega
              have HLN : Hid ((rC false bare true (gr ++ [cg L i])).length ≤ 2 * cw L (i + 1)) := hLN
              have hbjs := hbj.size
              clear hLN
              go_wp2
              go_roundg gO
              case measure => omega
              case rel => exact ⟨i + 1, Bc, gs, gr ++ [cg L i], by omega, by omega, hB0, by omega, HLN.out, by omega, by go_num, ⟨⟨HTK.out, HRB.out⟩, fun _ => by simp, own_low HR3.out HR4.out hbj, HR4.out, by rw [HRC.out]; exact HO.out⟩, hbel.trans (hbj.mono hB0)⟩
      · obtain rfl : n = i := by omega
        obtain ⟨r1, r2, r3, r4, r5⟩ := HR.out
        have HR1 : Hid (gs.flatten ++ gr = L) := by
          show _ = _
          rw [r1.1, List.take_of_length_le (by rw [HLen.out]; exact Nat.le_refl _)]
        have HRB : Hid (∀ x ∈ gs, (rC false bare true x).length ≤ 131072) := r1.2
        have hcwi : cw L n ≤ 65536 := HCW.out
        by_cases hn0 : n = 0
        · subst hn0
          have hgs : gs = [] := List.eq_nil_of_length_eq_zero (by omega)
          subst hgs
          have HG : Hid (L = []) := List.eq_nil_of_length_eq_zero HLen.out
          have HR3 : Hid (wr.ownsRow w.heap.size 9 1 _ 0 []) := r3
          clear r1 r2 r3 r4 r5
          go_wp2
          go_ret
          exact ⟨_, [], rfl, ⟨by rw [HG.out]; rfl, HR3.out, fun x hx => by simp at hx⟩, hbel⟩
        · have hnb : decide ((0 : Int) < (n : Int)) = true := by simp; omega
          have hcv := conv_back r5
          clear r1 r2 r4 r5
          go_wp2_with (at_builtin; refine wpList_append_own _ rfl (.tmp 100) (.tmp 103) 29 rfl w.heap.size 9 i9 (.string ⟨#[]⟩) 1 16 Tryd.underlying29 hi9 hy0 hy1 hy2 rfl (by decide) _ _ _ rfl (r3.alloc _) ⟨wr.heap.size, 0, none⟩ 1 1 [.string ⟨(rC false bare true gr).toArray⟩] rfl rfl (cell_one_new _ _ _) (one_okS _) (by unfold maxLen; omega) (by omega) (by simp; omega) ?_; intro v4 w4 hown4 hg4 hnn; clear hnn)
          have hb4 : Below w.heap.size w w4 := (hbel.alloc (by omega) _).grown hg4 (by simp; omega) (own_ge r3)
          go_ret
          exact ⟨v4, gs ++ [gr], rfl, ⟨by simp [← HR1.out], by simpa using hown4, fun x hx => (List.mem_append.1 hx).elim (HRB.out x) (fun h => by simp only [List.mem_singleton] at h; subst h; omega)⟩, hb4⟩
end Go.Proofs.Qxb6601748aDoor

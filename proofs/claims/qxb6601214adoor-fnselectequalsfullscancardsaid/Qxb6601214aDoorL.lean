/- Seat b6601214aD: Select. -/
import Derived.Test.Qxb6601214aDoorK
namespace Go.Proofs.Qxb6601214aDoor
open Go.RowKit Go.PlainAid Go.Sort Go.Shelf

def loP (P ss : List ByteArray) : Nat := if (baseS P).toList.isEmpty then 0 else bs ss (baseS P)
def hiP (P ss : List ByteArray) : Nat := if (baseS P).toList.isEmpty then ss.length else bs ss (baseS P ++ ⟨#[48]⟩)
def part (P ss : List ByteArray) (a b : Nat) : List Int := ((List.range' a (b - a)).filter fun i => pathM P (segs (sg ss i))).map fun (i : Nat) => (i : Int)
def sel (R : Nat → List ByteArray) (ss : List ByteArray) : Nat → List Int
  | 0 => []
  | k + 1 => sel R ss k ++ part (R k) ss (loP (R k) ss) (hiP (R k) ss)

theorem part_nil (P ss : List ByteArray) (a : Nat) : part P ss a a = [] := by simp [part]
theorem part_empty (P ss : List ByteArray) (a b : Nat) (h : b ≤ a) : part P ss a b = [] := by simp [part, show b - a = 0 by omega]
theorem part_snoc (P ss : List ByteArray) (a b : Nat) (h : a ≤ b) : part P ss a (b + 1) = part P ss a b ++ if pathM P (segs (sg ss b)) then [(b : Int)] else [] := by
  unfold part
  rw [show b + 1 - a = b - a + 1 by omega, List.range'_1_concat, List.filter_append, List.map_append, show a + (b - a) = b by omega]
  congr 1
  by_cases hp : pathM P (segs (sg ss b)) = true
  · simp [hp]
  · simp [hp]
theorem part_len (P ss : List ByteArray) (a b : Nat) : (part P ss a b).length ≤ b - a := by
  unfold part
  rw [List.length_map]
  exact Nat.le_trans (List.length_filter_le _ _) (by simp)
theorem hi_le (P ss : List ByteArray) : hiP P ss ≤ ss.length := by
  unfold hiP
  split
  · exact Nat.le_refl _
  · exact bs_le _ _
theorem sel_len (R : Nat → List ByteArray) (ss : List ByteArray) : ∀ k, (sel R ss k).length ≤ k * ss.length
  | 0 => by simp [sel]
  | k + 1 => by
    rw [sel, List.length_append, Nat.succ_mul]
    have h1 := sel_len R ss k
    have h2 := part_len (R k) ss (loP (R k) ss) (hiP (R k) ss)
    have h3 := hi_le (R k) ss
    omega

theorem cut_len : ∀ (l : List UInt8), ∀ p ∈ cut l, p.length ≤ l.length
  | [], p, h => by simp [cut] at h; simp [h]
  | c :: l, p, h => by
    have ih := cut_len l
    unfold cut at h
    cases hc : cut l with
    | nil => exact absurd hc (cut_ne l)
    | cons x t =>
      rw [hc] at h ih
      by_cases h47 : c = 47
      · rw [if_pos h47] at h
        rcases List.mem_cons.1 h with rfl | h
        · simp
        · have := ih p h; simp; omega
      · rw [if_neg h47] at h
        rcases List.mem_cons.1 h with rfl | h
        · have := ih x (by simp); simp; omega
        · have := ih p (by simp [h]); simp; omega
theorem segs_small (s : ByteArray) (h : s.size ≤ 1048576) : (segs s).length ≤ 1048577 ∧ ∀ i, i < (segs s).length → (sg (segs s) i).size ≤ 1048576 := by
  have h1 := pieces_le s
  have h2 : (segs s).length ≤ (pieces s).length := List.length_filter_le _ _
  refine ⟨by omega, fun i hi => ?_⟩
  have hm : sg (segs s) i ∈ pieces s := by
    have := sg_get hi
    exact (List.mem_filter.1 (List.mem_of_getElem? this)).1
  have h3 : (sg (segs s) i).data.toList ∈ cut s.data.toList := by
    rw [← pieces_data]
    exact List.mem_map.2 ⟨_, hm, rfl⟩
  have h4 := cut_len _ _ h3
  have e1 : (sg (segs s) i).data.toList.length = (sg (segs s) i).size := by simp
  have e2 : s.data.toList.length = s.size := by simp
  omega

theorem own_keep {w w' : World} {B n : Nat} {e : TypeId} {sz : Nat} {v : Value} {xs : List Value} (h : w.ownsRow B e sz v n xs) (hb : Below w.heap.size w w') : w'.ownsRow B e sz v n xs := by
  rcases h.2 with ⟨rfl, h0⟩ | ⟨g, cap, cur, rfl, hb', hg, hnc, hcm, hcs, htk⟩
  · exact ⟨h.1, Or.inl ⟨rfl, h0⟩⟩
  · exact ⟨h.1, Or.inr ⟨_, _, cur, rfl, hb', by rw [hb.block _ (lt_of_heap hg)]; exact hg, hnc, hcm, hcs, htk⟩⟩
theorem own_geI {B n : Nat} {e : TypeId} {sz : Nat} {w : World} {v : Value} {xs : List Value} (h : w.ownsRow B e sz v n xs) : ∀ k, v.ownBlock = some k → B ≤ k := by
  intro k hk
  rcases h.2 with ⟨rfl, _⟩ | ⟨g, cap, cur, rfl, hb, _⟩
  · simp [Value.ownBlock] at hk
  · simp [Value.ownBlock] at hk; omega
theorem own_ne {B n : Nat} {w : World} {v : Value} {xs : List Value} {pb : Nat} {c : Array Value} {fr : Nat × Nat} (h : w.ownsRow B 3 1 v n xs) (hp : w.heap[pb]? = some (.cells c 38 fr)) : v.ownBlock ≠ some pb := by
  intro hk
  rcases h.2 with ⟨rfl, _⟩ | ⟨g, cap, cur, rfl, hb, hg, _⟩
  · simp [Value.ownBlock] at hk
  · simp [Value.ownBlock] at hk
    subst hk
    rw [hg] at hp
    simp at hp
theorem one_okI (x : Int) : ∀ u ∈ [Value.int .i64 x], u.oneCell' = true := by
  intro u hu; simp at hu; subst hu; rfl
theorem one_okS (x : ByteArray) : ∀ u ∈ [Value.string x], u.oneCell' = true := by
  intro u hu; simp at hu; subst hu; rfl
theorem step_appendI {B n : Nat} {w0 w w' : World} {v v' : Value} {l : List Int} {o : Obj} {pb : Nat} {pc : Array Value} (c : Int) (hb : Below B w0 w) (hB : B ≤ w0.heap.size) (hn : n = l.length + 1)
    (hown : w.ownsRow B 3 1 v l.length (l.map (Value.int .i64))) (hown' : w'.ownsRow B 3 1 v' n (l.map (Value.int .i64) ++ [.int .i64 c])) (hg : (w.alloc o).grownBy w' v.ownBlock) (hp : w.heap[pb]? = some (.cells pc 38 (0, 0))) :
    w'.ownsRow B 3 1 v' (l ++ [c]).length ((l ++ [c]).map (Value.int .i64)) ∧ w'.heap[pb]? = some (.cells pc 38 (0, 0)) ∧ Below B w0 w' := by
  have h1 := hb.size
  have h2 := lt_of_heap hp
  refine ⟨by subst hn; simpa using hown', ?_, (hb.alloc (by omega) o).grown hg (by simp; omega) (own_geI hown)⟩
  rw [hg.block pb (by simp; omega) (fun e => own_ne hown hp e.symm), Below.heap_alloc _ _ _ h2]
  exact hp

theorem own_form {B n : Nat} {e : TypeId} {sz : Nat} {w : World} {v : Value} {xs : List Value} (h : w.ownsRow B e sz v n xs) : ∃ a c, v = .slice a n c := by
  rcases h.2 with ⟨rfl, rfl⟩ | ⟨g, cap, cur, rfl, _⟩
  · exact ⟨_, _, rfl⟩
  · exact ⟨_, _, rfl⟩
theorem mem_compact (L : List Int) (x : Int) (h : x ∈ Lib.compact (L.mergeSort fun x y => decide (x ≤ y))) : x ∈ L := by
  unfold Lib.compact Lib.compactUpTo at h
  obtain ⟨j, hj, rfl⟩ := List.mem_map.1 h
  have hj2 := (List.mem_filter.1 hj).1
  rw [List.mem_range] at hj2
  rw [getElem!_pos _ j (by simpa using hj2)]
  have : (L.mergeSort fun x y => decide (x ≤ y)).toArray[j]'(by simpa using hj2) ∈ (L.mergeSort fun x y => decide (x ≤ y)) := by simp
  exact (List.mergeSort_perm L _).mem_iff.1 this
theorem sel_mem (R : Nat → List ByteArray) (ss : List ByteArray) : ∀ (k : Nat) (x : Int), x ∈ sel R ss k → ∃ i : Nat, x = i ∧ i < ss.length
  | 0, x, h => by simp [sel] at h
  | k + 1, x, h => by
    rw [sel, List.mem_append] at h
    rcases h with h | h
    · exact sel_mem R ss k x h
    · unfold part at h
      obtain ⟨i, hi, rfl⟩ := List.mem_map.1 h
      have := (List.mem_filter.1 hi).1
      rw [List.mem_range'_1] at this
      have h3 := hi_le (R k) ss
      exact ⟨i, rfl, by omega⟩
theorem own_cells {w : World} {B n : Nat} {e : TypeId} {v : Value} {xs : List Value} {f : Nat → Value} (h : w.ownsRow B e 1 v n xs) (hx : ∀ i, i < n → xs[i]? = some (f i)) (hn : n ≤ 140737488355328) : Cells w v n f := by
  rcases h.2 with ⟨rfl, rfl⟩ | ⟨g, cap, cur, rfl, hb, hg, hnc, _⟩
  · exact ⟨none, 0, rfl, Nat.le_refl _, Nat.zero_le _, fun h => absurd h (by omega)⟩
  · exact (cells_of_own h hx hn).1

set_option maxHeartbeats 4000000 in
set_option maxRecDepth 100000 in
theorem select_head (vset vs : Value) (N : Nat) (f : Nat → Value) (R : Nat → List ByteArray) (ss : List ByteArray) (w : World) (hset : Cells w vset N f) (hrows : ∀ k, k < N → Strs w (f k) (R k)) (hsmR : ∀ k, k < N → Small (R k))
    (hstar : ∀ k, k < N → SomeStar (R k)) (hN : N ≤ 1048576) (hS : Strs w vs ss) (hsm : Small ss) (hm : ∃ m, w.cell? ⟨0, 0, none⟩ = some (.int .i64 m)) (h0 : 0 < w.heap.size) :
    Calls Tryd.prog 14 #[vset, vs] w fun e w' => ∃ v', e = .returned v' ∧ Hid (Strs w' v' ((Lib.compact ((sel R ss N).mergeSort fun x y => decide (x ≤ y))).map fun i => sg ss i.toNat)) ∧ Below w.heap.size w w' := by
  obtain ⟨i0, hi, hz0, hz1, hz2⟩ := info_parts Tryd.info3
  obtain ⟨ao, cap, rfl, hcap, hn, hc⟩ := hset
  obtain ⟨ao2, cap2, rfl, hn2, HC⟩ := hS.sized
  have HSS : Hid (Strs w (.slice ao2 ss.length cap2) ss) := hS
  have HCS : Hid (0 < N → ∃ b off, ao = some ⟨b, off, none⟩ ∧ b < w.heap.size ∧ ∀ i, i < N → w.cell? ⟨b, off + i, none⟩ = some (f i)) := hc
  have HR : Hid (∀ k, k < N → Strs w (f k) (R k)) := hrows
  have HSR : Hid (∀ k, k < N → Small (R k)) := hsmR
  have HST : Hid (∀ k, k < N → SomeStar (R k)) := hstar
  have HSM : Hid (Small ss) := hsm
  have HM : Hid (∃ m, w.cell? ⟨0, 0, none⟩ = some (.int .i64 m)) := hm
  have hsl := hsm.1
  clear hc hrows hsmR hstar hsm hm hS
  go_enter Tryd.func14, Tryd.ntmps14
  go_wp2
  go_loopw [5, 17] (fun v i wr => ∃ k : Nat, k ≤ N ∧ i = .int .i64 k ∧ wr.ownsRow w.heap.size 3 1 v (sel R ss k).length ((sel R ss k).map (Value.int .i64)) ∧ Below w.heap.size w wr) (fun _ i _ => N - (intOf i).toNat)
  case atStart => exact ⟨0, Nat.zero_le _, rfl, World.ownsRow_nil _ _ _ _, Below.refl _ _⟩
  case round =>
    obtain ⟨k, hk, rfl, hown0, hbel0⟩ := hrel
    by_cases hkN : k < N
    · obtain ⟨b0, off0, hao0, hb0, hcells0⟩ := HCS.out (by omega)
      obtain ⟨a3, c3, hfk⟩ : ∃ a3 c3, f k = .slice a3 (R k).length c3 := by
        obtain ⟨a, c, h, _⟩ := HR.out k hkN
        exact ⟨a, c, h⟩
      have hcell0 : wr.cell? ⟨b0, off0 + k, none⟩ = some (.slice a3 (R k).length c3) := by
        rw [← hfk]; exact (hbel0.cell (p := ⟨b0, off0 + k, none⟩) hb0).trans (hcells0 k hkN)
      have HFK : Hid (Strs w (.slice a3 (R k).length c3) (R k)) := by have := HR.out k hkN; rw [hfk] at this; exact this
      have hkk : k * ss.length ≤ 1048576 * 1048576 := Nat.mul_le_mul (by omega) (by omega)
      have hbsz : (baseS (R k)).size ≤ 2199024304128 := by
        have := base_len (HST.out k hkN) (HSR.out k hkN)
        simpa [baseS, ByteArray.size] using this
      have hwr := hbel0.size
      clear hcells0 hfk HCS HR
      subst hao0
      go_wp2_with fail
      have hbA0 : Below w.heap.size w (wr.alloc (.cells #[.slice a3 (R k).length c3] 38)) := hbel0.alloc hbel0.size _
      refine (base_any _ (R k) _ (HFK.out.below hbA0 (Nat.le_refl _)) (HSR.out k hkN) (HST.out k hkN)).mono ?_
      rintro e w1 ⟨rfl, hb1⟩
      have hcp : w1.cell? ⟨wr.heap.size, 0, none⟩ = some (.slice a3 (R k).length c3) := (hb1.cell (p := ⟨wr.heap.size, 0, none⟩) (by simp)).trans (by simp)
      have hpb1 : w1.heap[wr.heap.size]? = some (.cells #[.slice a3 (R k).length c3] 38 (0, 0)) := (hb1.block _ (by simp)).trans (heap_alloc_new _ _)
      have hown1 := own_keep (own_keep hown0 ((Below.refl _ _).alloc (Nat.le_refl _) _)) hb1
      have hbel1 : Below w.heap.size w w1 := hbA0.trans (hb1.mono hbA0.size)
      clear hown0 hb1 hbA0 hcell0
      by_cases hbe : (baseS (R k)).toList.isEmpty = true
      · have HLO : Hid (loP (R k) ss = 0) := by show _ = _; unfold loP; rw [if_pos hbe]
        have HHI : Hid (hiP (R k) ss = ss.length) := by show _ = _; unfold hiP; rw [if_pos hbe]
        have hownA := hown1
        have hpbA := hpb1
        have hbA := hbel1
        clear hown1 hpb1 hbel1 hbel0
        go_wp2
        generalize wr.heap.size = pb at *
        go_loopw [5, 11] (fun v i wr => ∃ c : Nat, 0 ≤ c ∧ (c ≤ ss.length ∨ c = 0) ∧ i = .int .i64 c ∧ wr.ownsRow w.heap.size 3 1 v (sel R ss k ++ part (R k) ss 0 c).length ((sel R ss k ++ part (R k) ss 0 c).map (Value.int .i64)) ∧ wr.heap[pb]? = some (.cells #[.slice a3 (R k).length c3] 38 (0, 0)) ∧ Below w.heap.size w wr) (fun _ i _ => ss.length - (intOf i).toNat)
        case atStart => exact ⟨0, Nat.le_refl _, Or.inr rfl, rfl, by rw [part_nil, List.append_nil]; exact hownA, hpbA, hbA⟩
        case round =>
          clear hownA hpbA hbA hcp
          obtain ⟨c, hc1, hc2, rfl, hown, hpb, hbel⟩ := hrel
          have hsel := sel_len R ss k
          have hpart := part_len (R k) ss 0 c
          by_cases hlt : c < ss.length
          · have hcn : c < ss.length := by omega
            obtain ⟨b, off, hao, hb, hcell0⟩ := HC.out (by omega)
            have hcell : wr.cell? ⟨b, off + c, none⟩ = some (.string (sg ss c)) := (hbel.cell (p := ⟨b, off + c, none⟩) hb).trans (hcell0 c hcn)
            have hcp2 : wr.cell? ⟨pb, 0, none⟩ = some (.slice a3 (R k).length c3) := by rw [Lib.cell_of_heap hpb]; rfl
            have hsz : (sg ss c).size ≤ 1048576 := HSM.out.2 c hcn
            have hmx : ∃ m, wr.cell? ⟨0, 0, none⟩ = some (.int .i64 m) := by obtain ⟨m, hm⟩ := HM.out; exact ⟨m, (hbel.cell (p := ⟨0, 0, none⟩) h0).trans hm⟩
            have HMX : Hid (∃ m, wr.cell? ⟨0, 0, none⟩ = some (.int .i64 m)) := hmx
            have HRK : Hid (Strs wr (.slice a3 (R k).length c3) (R k)) := HFK.out.below hbel (Nat.le_refl _)
            have hci : (c : Int) < (ss.length : Int) := by omega
            have hpbl : pb < wr.heap.size := lt_of_heap hpb
            have hbs := hbel.size
            have HSN : Hid (part (R k) ss 0 (c + 1) = part (R k) ss 0 c ++ if pathM (R k) (segs (sg ss c)) then [(c : Int)] else []) := part_snoc _ _ _ _ hc1
            have HSEG := segs_small (sg ss c) hsz
            clear hcell0 hmx
            subst hao
            cases hit : pathM (R k) (segs (sg ss c)) with
            | true =>
              have HIT : Hid (pathM (R k) (segs (sg ss c)) = true) := hit
              go_wp2
              go_region_with (first
                | (go_at_call 15; refine (splitPath_any _ _ hsz (by exact HMX.out)).mono ?_; rintro e w2 ⟨pv, rfl, hpv, hb20⟩; have hb2 : Below wr.heap.size wr w2 := (Below.refl _ wr).drew.trans hb20; clear hb20; have hcp3 : w2.cell? ⟨pb, 0, none⟩ = some (.slice a3 (R k).length c3) := (hb2.cell (p := ⟨pb, 0, none⟩) (by exact hpbl)).trans (by exact hcp2))
                | (go_at_call 16; refine (match_calls _ _ (R k) (segs (sg ss c)) _ (by exact HRK.out.below hb2 (Nat.le_refl _)) hpv.out (HSR.out k hkN) HSEG).mono ?_; rintro e w3 ⟨rfl, hb3⟩))
              all_goals
                have hbel3 : Below wr.heap.size wr w3 := hb2.trans (hb3.mono hb2.size)
                have hown3 := own_keep hown hbel3
                have hpb3 : w3.heap[pb]? = some (.cells #[.slice a3 (R k).length c3] 38 (0, 0)) := (hbel3.block _ hpbl).trans hpb
                have hb3s := hbel3.size
                have hbelw : Below w.heap.size w w3 := hbel.trans (hbel3.mono hbs)
                clear hb2 hb3 hpv hcp3
                go_wp2_with (at_builtin; refine wpList_append_own _ rfl (.tmp 53) (.tmp 55) 41 rfl w.heap.size 3 i0 (.int .i64 0) 1 8 Tryd.underlying41 hi hz0 hz1 hz2 rfl (by decide) _ _ _ rfl (hown3.alloc _) ⟨w3.heap.size, 0, none⟩ 1 1 [.int .i64 c] rfl rfl (cell_one_new _ _ _) (one_okI _) (by unfold maxLen; simp; omega) (by simp; omega) (by simp; omega) ?_; intro v4 w4 hown4 hg4 hnn; clear hnn)
                have R4 := step_appendI c hbelw (Nat.le_refl _) rfl hown3 hown4 hg4 hpb3
                clear hown4 hg4 hown3 hown
                go_roundw
                case rel => exact ⟨c + 1, by omega, Or.inl (by omega), by go_num, by rw [HSN.out, if_pos HIT.out, ← List.append_assoc]; exact R4.1, R4.2.1, R4.2.2⟩
                case measure => simp [intOf]; omega
            | false =>
              have HIT : Hid (pathM (R k) (segs (sg ss c)) = false) := hit
              go_wp2
              go_region_with (first
                | (go_at_call 15; refine (splitPath_any _ _ hsz (by exact HMX.out)).mono ?_; rintro e w2 ⟨pv, rfl, hpv, hb20⟩; have hb2 : Below wr.heap.size wr w2 := (Below.refl _ wr).drew.trans hb20; clear hb20; have hcp3 : w2.cell? ⟨pb, 0, none⟩ = some (.slice a3 (R k).length c3) := (hb2.cell (p := ⟨pb, 0, none⟩) (by exact hpbl)).trans (by exact hcp2))
                | (go_at_call 16; refine (match_calls _ _ (R k) (segs (sg ss c)) _ (by exact HRK.out.below hb2 (Nat.le_refl _)) hpv.out (HSR.out k hkN) HSEG).mono ?_; rintro e w3 ⟨rfl, hb3⟩))
              all_goals
                have hbel3 : Below wr.heap.size wr w3 := hb2.trans (hb3.mono hb2.size)
                have hown3 := own_keep hown hbel3
                have hpb3 : w3.heap[pb]? = some (.cells #[.slice a3 (R k).length c3] 38 (0, 0)) := (hbel3.block _ hpbl).trans hpb
                have hbelw : Below w.heap.size w w3 := hbel.trans (hbel3.mono hbs)
                clear hb2 hb3 hpv hcp3
                go_wp2
                go_roundw
                case rel => exact ⟨c + 1, by omega, Or.inl (by omega), by go_num, by rw [HSN.out, if_neg (by rw [HIT.out]; simp), List.append_nil]; exact hown3, hpb3, hbelw⟩
                case measure => simp [intOf]; omega
          · have hend : Hid (sel R ss k ++ part (R k) ss 0 c = sel R ss (k + 1)) := by
              show _ = _
              rw [sel, HLO.out, HHI.out]
              rcases hc2 with h | h
              · rw [show c = ss.length by omega]
              · rw [h, part_nil, part_empty _ _ _ _ (by omega)]
            have hown5 := hown
            rw [hend.out] at hown5
            clear hown hpb
            go_wp2
            go_roundw
            case rel => exact ⟨k + 1, by omega, by go_num, hown5, hbel⟩
            case measure => simp [intOf]; omega
      · have hbe' : (baseS (R k)).toList.isEmpty = false := by simpa using hbe
        have HLO : Hid (loP (R k) ss = bs ss (baseS (R k))) := by show _ = _; unfold loP; rw [if_neg hbe]
        have HHI : Hid (hiP (R k) ss = bs ss (baseS (R k) ++ ⟨#[48]⟩)) := by show _ = _; unfold hiP; rw [if_neg hbe]
        have hXn := bs_le ss (baseS (R k))
        have hYn := bs_le ss (baseS (R k) ++ ⟨#[48]⟩)
        clear hbe
        go_wp2_with fail
        refine (bs_calls _ ss _ _ (HSS.out.below hbel1 (Nat.le_refl _))).mono ?_
        rintro e w5 ⟨bv, rfl, hb5⟩
        have hbel5 : Below w.heap.size w w5 := hbel1.trans (hb5.mono hbel1.size)
        go_wp2_with fail
        refine (bs_calls _ ss _ _ (HSS.out.below hbel5 (Nat.le_refl _))).mono ?_
        rintro e w6 ⟨bv2, rfl, hb6⟩
        have hb56 : Below w1.heap.size w1 w6 := hb5.trans (hb6.mono hb5.size)
        have hownA := own_keep hown1 hb56
        have hpbA : w6.heap[wr.heap.size]? = some (.cells #[.slice a3 (R k).length c3] 38 (0, 0)) := (hb56.block _ (lt_of_heap hpb1)).trans hpb1
        have hbA : Below w.heap.size w w6 := hbel1.trans (hb56.mono hbel1.size)
        have hcp : True := trivial
        clear hown1 hpb1 hbel1 hbel0 hb5 hb6 hb56 hbel5
        generalize bs ss (baseS (R k)) = X at *
        generalize bs ss (baseS (R k) ++ ⟨#[48]⟩) = Y at *
        go_wp2
        generalize wr.heap.size = pb at *
        go_loopw [5, 11] (fun v i wr => ∃ c : Nat, X ≤ c ∧ (c ≤ Y ∨ c = X) ∧ i = .int .i64 c ∧ wr.ownsRow w.heap.size 3 1 v (sel R ss k ++ part (R k) ss X c).length ((sel R ss k ++ part (R k) ss X c).map (Value.int .i64)) ∧ wr.heap[pb]? = some (.cells #[.slice a3 (R k).length c3] 38 (0, 0)) ∧ Below w.heap.size w wr) (fun _ i _ => Y - (intOf i).toNat)
        case atStart => exact ⟨X, Nat.le_refl _, Or.inr rfl, rfl, by rw [part_nil, List.append_nil]; exact hownA, hpbA, hbA⟩
        case round =>
          clear hownA hpbA hbA hcp
          obtain ⟨c, hc1, hc2, rfl, hown, hpb, hbel⟩ := hrel
          have hsel := sel_len R ss k
          have hpart := part_len (R k) ss X c
          by_cases hlt : c < Y
          · have hcn : c < ss.length := by omega
            obtain ⟨b, off, hao, hb, hcell0⟩ := HC.out (by omega)
            have hcell : wr.cell? ⟨b, off + c, none⟩ = some (.string (sg ss c)) := (hbel.cell (p := ⟨b, off + c, none⟩) hb).trans (hcell0 c hcn)
            have hcp2 : wr.cell? ⟨pb, 0, none⟩ = some (.slice a3 (R k).length c3) := by rw [Lib.cell_of_heap hpb]; rfl
            have hsz : (sg ss c).size ≤ 1048576 := HSM.out.2 c hcn
            have hmx : ∃ m, wr.cell? ⟨0, 0, none⟩ = some (.int .i64 m) := by obtain ⟨m, hm⟩ := HM.out; exact ⟨m, (hbel.cell (p := ⟨0, 0, none⟩) h0).trans hm⟩
            have HMX : Hid (∃ m, wr.cell? ⟨0, 0, none⟩ = some (.int .i64 m)) := hmx
            have HRK : Hid (Strs wr (.slice a3 (R k).length c3) (R k)) := HFK.out.below hbel (Nat.le_refl _)
            have hci : (c : Int) < (ss.length : Int) := by omega
            have hpbl : pb < wr.heap.size := lt_of_heap hpb
            have hbs := hbel.size
            have HSN : Hid (part (R k) ss X (c + 1) = part (R k) ss X c ++ if pathM (R k) (segs (sg ss c)) then [(c : Int)] else []) := part_snoc _ _ _ _ hc1
            have HSEG := segs_small (sg ss c) hsz
            clear hcell0 hmx
            subst hao
            cases hit : pathM (R k) (segs (sg ss c)) with
            | true =>
              have HIT : Hid (pathM (R k) (segs (sg ss c)) = true) := hit
              go_wp2
              go_region_with (first
                | (go_at_call 15; refine (splitPath_any _ _ hsz (by exact HMX.out)).mono ?_; rintro e w2 ⟨pv, rfl, hpv, hb20⟩; have hb2 : Below wr.heap.size wr w2 := (Below.refl _ wr).drew.trans hb20; clear hb20; have hcp3 : w2.cell? ⟨pb, 0, none⟩ = some (.slice a3 (R k).length c3) := (hb2.cell (p := ⟨pb, 0, none⟩) (by exact hpbl)).trans (by exact hcp2))
                | (go_at_call 16; refine (match_calls _ _ (R k) (segs (sg ss c)) _ (by exact HRK.out.below hb2 (Nat.le_refl _)) hpv.out (HSR.out k hkN) HSEG).mono ?_; rintro e w3 ⟨rfl, hb3⟩))
              all_goals
                have hbel3 : Below wr.heap.size wr w3 := hb2.trans (hb3.mono hb2.size)
                have hown3 := own_keep hown hbel3
                have hpb3 : w3.heap[pb]? = some (.cells #[.slice a3 (R k).length c3] 38 (0, 0)) := (hbel3.block _ hpbl).trans hpb
                have hb3s := hbel3.size
                have hbelw : Below w.heap.size w w3 := hbel.trans (hbel3.mono hbs)
                clear hb2 hb3 hpv hcp3
                go_wp2_with (at_builtin; refine wpList_append_own _ rfl (.tmp 53) (.tmp 55) 41 rfl w.heap.size 3 i0 (.int .i64 0) 1 8 Tryd.underlying41 hi hz0 hz1 hz2 rfl (by decide) _ _ _ rfl (hown3.alloc _) ⟨w3.heap.size, 0, none⟩ 1 1 [.int .i64 c] rfl rfl (cell_one_new _ _ _) (one_okI _) (by unfold maxLen; simp; omega) (by simp; omega) (by simp; omega) ?_; intro v4 w4 hown4 hg4 hnn; clear hnn)
                have R4 := step_appendI c hbelw (Nat.le_refl _) rfl hown3 hown4 hg4 hpb3
                clear hown4 hg4 hown3 hown
                go_roundw
                case rel => exact ⟨c + 1, by omega, Or.inl (by omega), by go_num, by rw [HSN.out, if_pos HIT.out, ← List.append_assoc]; exact R4.1, R4.2.1, R4.2.2⟩
                case measure => simp [intOf]; omega
            | false =>
              have HIT : Hid (pathM (R k) (segs (sg ss c)) = false) := hit
              go_wp2
              go_region_with (first
                | (go_at_call 15; refine (splitPath_any _ _ hsz (by exact HMX.out)).mono ?_; rintro e w2 ⟨pv, rfl, hpv, hb20⟩; have hb2 : Below wr.heap.size wr w2 := (Below.refl _ wr).drew.trans hb20; clear hb20; have hcp3 : w2.cell? ⟨pb, 0, none⟩ = some (.slice a3 (R k).length c3) := (hb2.cell (p := ⟨pb, 0, none⟩) (by exact hpbl)).trans (by exact hcp2))
                | (go_at_call 16; refine (match_calls _ _ (R k) (segs (sg ss c)) _ (by exact HRK.out.below hb2 (Nat.le_refl _)) hpv.out (HSR.out k hkN) HSEG).mono ?_; rintro e w3 ⟨rfl, hb3⟩))
              all_goals
                have hbel3 : Below wr.heap.size wr w3 := hb2.trans (hb3.mono hb2.size)
                have hown3 := own_keep hown hbel3
                have hpb3 : w3.heap[pb]? = some (.cells #[.slice a3 (R k).length c3] 38 (0, 0)) := (hbel3.block _ hpbl).trans hpb
                have hbelw : Below w.heap.size w w3 := hbel.trans (hbel3.mono hbs)
                clear hb2 hb3 hpv hcp3
                go_wp2
                go_roundw
                case rel => exact ⟨c + 1, by omega, Or.inl (by omega), by go_num, by rw [HSN.out, if_neg (by rw [HIT.out]; simp), List.append_nil]; exact hown3, hpb3, hbelw⟩
                case measure => simp [intOf]; omega
          · have hend : Hid (sel R ss k ++ part (R k) ss X c = sel R ss (k + 1)) := by
              show _ = _
              rw [sel, HLO.out, HHI.out]
              rcases hc2 with h | h
              · rw [show c = Y by omega]
              · rw [h, part_nil, part_empty _ _ _ _ (by omega)]
            have hown5 := hown
            rw [hend.out] at hown5
            clear hown hpb
            go_wp2
            go_roundw
            case rel => exact ⟨k + 1, by omega, by go_num, hown5, hbel⟩
            case measure => simp [intOf]; omega
    · obtain rfl : k = N := by omega
      obtain ⟨a5, c5, hv⟩ := own_form hown0
      subst hv
      have hsl2 := sel_len R ss k
      have hkk : k * ss.length ≤ 1048576 * 1048576 := Nat.mul_le_mul (by omega) (by omega)
      have hwr := hbel0.size
      have HEL : Hid (∀ x ∈ Lib.compact ((sel R ss k).mergeSort fun x y => decide (x ≤ y)), ∃ i : Nat, x = i ∧ i < ss.length) := fun x hx => sel_mem R ss k x (mem_compact _ _ hx)
      obtain ⟨i9, hi9, hy0, hy1, hy2⟩ := info_parts Tryd.info9
      clear HCS HR HSR HST HM hi hz0 hz1 hz2
      generalize hL : sel R ss k = L at *
      have HLq : Hid (sel R ss k = L) := hL
      clear hL
      go_wp2_with fail
      refine (sort_calls _ w.heap.size _ L _ rfl hwr (by omega) hown0).mono ?_
      rintro e w1 ⟨rfl, hownS, hb1⟩
      have hb1s := hb1.size
      have hbel1 : Below w.heap.size w w1 := hbel0.trans hb1
      have hb1s' : w.heap.size ≤ w1.heap.size := hbel1.size
      generalize hM : L.mergeSort (fun x y => decide (x ≤ y)) = M at *
      have hML : L.length = M.length := by rw [← hM]; exact (List.length_mergeSort _).symm
      have HMq : Hid ((L.mergeSort fun x y => decide (x ≤ y)) = M) := hM
      have hml : M.length ≤ 1099511627776 := by omega
      clear hown0 hb1 hbel0 hM hsl2 hkk
      have hS2 := hownS.out
      clear hownS
      rw [hML] at *
      clear hML
      have hownS : Hid (w1.ownsRow w.heap.size 3 1 (.slice a5 M.length c5) M.length (M.map (Value.int .i64))) := hS2
      clear hS2
      go_wp2_with (at_make; refine wpList_make_own _ rfl _ _ 23 rfl w1.heap.size 9 i9 (.string ⟨#[]⟩) 1 Tryd.underlying23 hi9 hy0 hy1 _ _ _ M.length rfl rfl rfl (by rw [hy2]; omega) (by unfold maxLen; omega) (Nat.le_refl _) ?_; intro w6 hown6 hg6; have hb6 : Below w1.heap.size w1 w6 := (Below.refl _ _).grown hg6 (Nat.le_refl _) (by intro k hk; cases hk))
      refine (compact_calls (.slice a5 M.length c5) w.heap.size M.length M w6 rfl (by have := hb6.size; omega) hml (own_keep hownS.out hb6)).mono ?_
      rintro e w7 ⟨vc, rfl, hvc, hb7⟩
      obtain ⟨a7, c7, hv7⟩ : ∃ a c, vc = .slice a (Lib.compact M).length c := by obtain ⟨a, c, h, _⟩ := hvc.out.1; exact ⟨a, c, h⟩
      subst hv7
      have hb7s := hb7.size
      have hb6s := hb6.size
      have hne : (Value.slice a5 M.length c5).ownBlock ≠ some w1.heap.size := by
        intro e
        rcases hownS.out.2 with ⟨h, _⟩ | ⟨g, cap, cur, h, _, hg, _⟩
        · simp only [Value.slice.injEq] at h; rw [h.1] at e; simp [Value.ownBlock] at e
        · cases h
          simp [Value.ownBlock] at e
          have := lt_of_heap hg
          omega
      have hownP : w7.ownsRow w1.heap.size 9 1 (.slice (some ⟨w1.heap.size, 0, none⟩) 0 M.length) 0 [] := by
        rcases hown6.2 with ⟨h', _⟩ | ⟨g', cap', cur, h', hb', hg, hnc, hcm, hcs, htk⟩
        · simp at h'
        · simp only [Value.slice.injEq, Option.some.injEq, Addr.mk.injEq, and_true, true_and] at h'
          obtain ⟨rfl, rfl⟩ := h'
          exact ⟨rfl, Or.inr ⟨_, _, cur, rfl, hb', by rw [hvc.out.2.1 _ hne]; exact hg, hnc, hcm, hcs, htk⟩⟩
      have hbel7 : Below w.heap.size w w7 := (hbel1.trans (hb6.mono hb1s')).trans hb7
      have HCC : Hid (∀ j, j < (Lib.compact M).length → ∃ b off, a7 = some ⟨b, off, none⟩ ∧ b < w1.heap.size ∧ w7.cell? ⟨b, off + j, none⟩ = some (.int .i64 ((Lib.compact M).getD j 0))) := fun j hj => by
        obtain ⟨a, c, h, _, _, hh⟩ := hvc.out.1
        cases h
        obtain ⟨b, off, rfl, _, hcell⟩ := hh (by omega)
        refine ⟨b, off, rfl, ?_, hcell j hj⟩
        have hob := hvc.out.2.2 _ _ _ rfl
        rcases hownS.out.2 with ⟨h, _⟩ | ⟨g, cap, cur, h, _, hg, _⟩
        · simp only [Value.slice.injEq] at h; rw [h.1] at hob; simp [Value.ownBlock] at hob
        · cases h
          simp [Value.ownBlock] at hob
          rw [← hob]; exact lt_of_heap hg
      have hcl := compact_len M
      clear hvc hownS hown6 hg6 hne hb7 hb6
      generalize hCq : Lib.compact M = C at *
      have HCq : Hid (Lib.compact M = C) := hCq
      clear hCq
      go_wp2
      go_loopw [12, 14, 66] (fun vp _ i wr => ∃ j : Nat, j ≤ C.length ∧ i = .int .i64 j ∧ wr.ownsRow w1.heap.size 9 1 vp ((C.take j).map fun i => sg ss i.toNat).length (((C.take j).map fun i => sg ss i.toNat).map Value.string) ∧ Below w1.heap.size w7 wr) (fun _ _ i _ => C.length - (intOf i).toNat)
      case atStart => exact ⟨0, Nat.zero_le _, rfl, hownP, Below.refl _ _⟩
      case round =>
        clear hownP
        obtain ⟨j, hj, rfl, hown, hbel⟩ := hrel
        have hjl : ((C.take j).map fun i => sg ss i.toNat).length ≤ 1099511627776 := by rw [List.length_map, List.length_take]; omega
        have hbs := hbel.size
        by_cases hlt : j < C.length
        · obtain ⟨b, off, ha7, hb, hcell0⟩ := HCC.out j hlt
          have hcell : wr.cell? ⟨b, off + j, none⟩ = some (.int .i64 (C.getD j 0)) := (hbel.cell (p := ⟨b, off + j, none⟩) hb).trans hcell0
          have hget : C.getD j 0 = C[j] := by rw [List.getD_eq_getElem?_getD, List.getElem?_eq_getElem hlt]; rfl
          obtain ⟨i, hi1, hi2⟩ := HEL.out (C[j]) (List.getElem_mem hlt)
          rw [hget, hi1] at hcell
          obtain ⟨b2, off2, hao2, hb2, hcells2⟩ := HC.out (by omega)
          have hcell2 : wr.cell? ⟨b2, off2 + i, none⟩ = some (.string (sg ss i)) := by
            have h1 : wr.cell? ⟨b2, off2 + i, none⟩ = w7.cell? ⟨b2, off2 + i, none⟩ := hbel.cell (p := ⟨b2, off2 + i, none⟩) (by show b2 < _; omega)
            rw [h1, hbel7.cell (p := ⟨b2, off2 + i, none⟩) hb2]
            exact hcells2 i hi2
          have HTK : Hid ((C.take (j + 1)).map (fun i => sg ss i.toNat) = (C.take j).map (fun i => sg ss i.toNat) ++ [sg ss i]) := by
            show _ = _
            rw [List.take_succ_eq_append_getElem hlt, List.map_append, hi1]; simp
          clear hcell0 hcells2 hget hi1
          subst ha7
          subst hao2
          generalize (C.take j).map (fun i => sg ss i.toNat) = Z at *
          go_wp2_with (at_builtin; refine wpList_append_own _ rfl (.tmp 70) (.tmp 75) 23 rfl w1.heap.size 9 i9 (.string ⟨#[]⟩) 1 16 Tryd.underlying23 hi9 hy0 hy1 hy2 rfl (by decide) _ _ _ rfl (hown.alloc _) ⟨wr.heap.size, 0, none⟩ 1 1 [.string (sg ss i)] rfl rfl (cell_one_new _ _ _) (one_okS _) (by unfold maxLen; omega) (by omega) (by simp; omega) ?_; intro v4 w4 hown4 hg4 hnn; clear hnn)
          have hbel4 : Below w1.heap.size w7 w4 := (hbel.alloc (by omega) _).grown hg4 (by simp; omega) (own_geI hown)
          have hown5 : w4.ownsRow w1.heap.size 9 1 v4 (Z ++ [sg ss i]).length ((Z ++ [sg ss i]).map Value.string) := by simpa using hown4
          clear hown4 hg4 hown
          go_roundw
          case rel => exact ⟨j + 1, by omega, by go_num, by rw [HTK.out]; exact hown5, hbel4⟩
          case measure => simp [intOf]; omega
        · obtain rfl : j = C.length := by omega
          rw [List.take_length] at hown hjl
          have hfin : ∀ v', wr.ownsRow w1.heap.size 9 1 v' (C.map fun i => sg ss i.toNat).length ((C.map fun i => sg ss i.toNat).map Value.string) → Strs wr v' (C.map fun i => sg ss i.toNat) := fun v' h =>
            Cells.strs (own_cells h (fun i hi => by rw [List.getElem?_map, sg_get hi]; rfl) (by omega))
          have HF : Hid (Strs wr u12 (C.map fun i => sg ss i.toNat)) := hfin _ hown
          clear hfin hown
          go_wp2
          go_ret
          exact ⟨_, rfl, by rw [HLq.out, HMq.out, HCq.out]; exact HF, hbel7.trans (hbel.mono hb1s')⟩
end Go.Proofs.Qxb6601214aDoor

/- Seat b6601214aD: the law's walk. -/
import Derived.Test.Qxb6601214aDoorM
namespace Go.Proofs.Qxb6601214aDoor
open Go.RowKit Go.PlainAid Go.Sort Go.Shelf

theorem hit_none {R : Nat → List ByteArray} {N : Nat} {ss : List ByteArray} {i : Nat} (h : ∀ j, j < N → pathM (R j) (segs (sg ss i)) = false) : hitB R N ss i = false := by
  unfold hitB
  rw [List.any_eq_false]
  intro k hk
  rw [h k (List.mem_range.1 hk)]; simp
theorem hit_some {R : Nat → List ByteArray} {N : Nat} {ss : List ByteArray} {i k : Nat} (hk : k < N) (h : pathM (R k) (segs (sg ss i)) = true) : hitB R N ss i = true :=
  List.any_eq_true.2 ⟨k, List.mem_range.2 hk, h⟩

theorem Rws.below {w w' : World} {v : Value} {rs : List (Value × List ByteArray)} (h : Rws w v rs) {B : Nat} (hb : Below B w w') (hB : w.heap.size ≤ B) : Rws w' v rs :=
  ⟨h.1.below hb hB, fun i hi => (h.2 i hi).below hb hB⟩
theorem Cells.formed {w : World} {v : Value} {n : Nat} {f : Nat → Value} (h : Cells w v n f) : ∃ a c, v = .slice a n c ∧ n ≤ 140737488355328 ∧ Hid (0 < n → ∃ b off, a = some ⟨b, off, none⟩ ∧ b < w.heap.size ∧ ∀ i, i < n → w.cell? ⟨b, off + i, none⟩ = some (f i)) := by
  obtain ⟨ao, cap, rfl, _, hn, h⟩ := h
  exact ⟨ao, cap, rfl, hn, h⟩

set_option maxHeartbeats 4000000 in
set_option maxRecDepth 100000 in
theorem law_walk (v u : Value) (rs : List (Value × List ByteArray)) (ss : List ByteArray) (w : World) (hR : Rws w v rs) (hS : Strs w u ss) (hl : ∀ i j, (sg (rr rs i) j).size ≤ maxLen) (hl2 : ∀ j, (sg ss j).size ≤ maxLen)
    (hm : ∃ m, w.cell? ⟨0, 0, none⟩ = some (.int .i64 m)) (h0 : 0 < w.heap.size) :
    Calls Tryd.prog 3 #[v, u] w fun e w' => e = .returned (.bool true) ∧ Below w.heap.size w w' := by
  have HR : Hid (Rws w v rs) := hR
  have HS : Hid (Strs w u ss) := hS
  have HL : Hid (∀ i j, (sg (rr rs i) j).size ≤ maxLen) := hl
  have HL2 : Hid (∀ j, (sg ss j).size ≤ maxLen) := hl2
  have HM : Hid (∃ m, w.cell? ⟨0, 0, none⟩ = some (.int .i64 m)) := hm
  obtain ⟨ao, cap, rfl, hn, HC⟩ := hS.sized
  clear hR hS hl hl2 hm
  go_enter Tryd.func3, Tryd.ntmps3
  go_wp2_with fail
  refine (zzFn_any _ _ rs ss _ HR.out HS.out HL.out HL2.out).mono ?_
  rintro e w1 ⟨rfl | rfl, rfl⟩
  · go_wp2
    go_ret
    exact ⟨rfl, Below.refl _ _⟩
  go_wp2_with fail
  refine (zzBytesNested_any _ rs _ HR.out HL.out).mono ?_
  rintro e w2 ⟨r1, rfl, hr0, hr1, hr2, rfl⟩
  go_wp2_with fail
  refine (zzBytes_any _ ss _ HS.out HL2.out).mono ?_
  rintro e w3 ⟨r2, rfl, hs0, hs1, hs2, rfl⟩
  by_cases hbig : r1 + r2 ≤ 1048576
  case neg =>
    go_wp2
    go_ret
    exact ⟨rfl, Below.refl _ _⟩
  have HSR : Hid (SmallR rs) := hr2.out (by omega)
  have HSS : Hid (Small ss) := hs2.out (by omega)
  have hsl : ss.length ≤ 1048576 := HSS.out.1
  have hrl : rs.length ≤ 1048576 := HSR.out.1
  clear hr2 hs2 HL2
  go_wp2_with fail
  refine (zzSorted_any _ ss _ HS.out).mono ?_
  rintro e w4 ⟨rfl | ⟨rfl, HSO⟩, hb4⟩
  · go_wp2
    go_ret
    exact ⟨rfl, hb4⟩
  go_wp2
  go_loop [5] (fun i => ∃ k : Nat, k ≤ ss.length ∧ i = .int .i64 k ∧ Hid (∀ j, j < k → Git (sg ss j).data.toList)) (fun i => ss.length - (intOf i).toNat)
  case atStart => exact ⟨0, Nat.zero_le _, rfl, fun j hj => by omega⟩
  case round =>
    obtain ⟨k, hk, rfl, hall⟩ := hrel
    by_cases hlt : k < ss.length
    · obtain ⟨b, off, hao, hb, hcell0⟩ := HC.out (by omega)
      have hcell := (hb4.cell (p := ⟨b, off + k, none⟩) hb).trans (hcell0 k hlt)
      have hsz : (sg ss k).size ≤ 1048576 := HSS.out.2 k hlt
      clear hcell0
      subst hao
      go_wp2_with fail
      refine (zzGit_any _ _ hsz).mono ?_
      rintro e w5 ⟨rfl | ⟨rfl, hgit⟩, rfl⟩
      · go_wp2
        go_ret
        exact ⟨rfl, hb4⟩
      · have hall2 : Hid (∀ j, j < k + 1 → Git (sg ss j).data.toList) := fun j hj => by
          rcases Nat.lt_or_ge j k with h' | h'
          · exact hall.out j h'
          · rw [show j = k by omega]; exact hgit.out
        go_wp2
        go_round
        case rel => exact ⟨k + 1, by omega, by go_num, hall2⟩
        case measure => simp [intOf]; omega
    · have HG : Hid (∀ i, i < ss.length → Git (sg ss i).data.toList) := fun i hi => hall.out i (by omega)
      clear hall HC
      go_wp2_with fail
      refine (zzEvery_any _ rs _ (HR.out.below hb4 (Nat.le_refl _)) HL.out).mono ?_
      rintro e w6 ⟨rfl | ⟨rfl, HST⟩, rfl⟩
      · go_wp2
        go_ret
        exact ⟨rfl, hb4⟩
      go_wp2_with fail
      refine (zzCloneNested_any _ rs _ (HR.out.below hb4 (Nat.le_refl _)) HSR.out).mono ?_
      rintro e w7 ⟨v7, f, rfl, hcl, hb7⟩
      have hbA7 := hb4.trans (hb7.mono hb4.size)
      go_wp2_with fail
      refine (zzClone_any _ ss _ (HS.out.below hbA7 (Nat.le_refl _)) hsl).mono ?_
      rintro e w8 ⟨u8, rfl, hu8, hb8⟩
      have hbA8 := hbA7.trans (hb8.mono hbA7.size)
      go_wp2_with fail
      refine (zzSet_any _ rs.length f _ (hcl.out.1.below hb8 (Nat.le_refl _)) (fun i hi => by obtain ⟨a, c, h, _⟩ := hcl.out.2 i hi; exact ⟨a, _, c, h⟩) hrl).mono ?_
      rintro e w9 ⟨v9, rfl, hv9, hb9⟩
      have hbA9 := hbA8.trans (hb9.mono hbA8.size)
      have hb79 : Below w7.heap.size w7 w9 := hb8.trans (hb9.mono hb8.size)
      have HM9 : ∃ m, w9.cell? ⟨0, 0, none⟩ = some (.int .i64 m) := by obtain ⟨m, hm⟩ := HM.out; exact ⟨m, (hbA9.cell (p := ⟨0, 0, none⟩) h0).trans hm⟩
      have HU9 : Hid (Strs w9 u8 ss) := hu8.out.1.below hb9 (Nat.le_refl _)
      have HF9 : Hid (∀ k, k < rs.length → Strs w9 (f k) (rr rs k)) := fun k hk => (hcl.out.2 k hk).below hb79 (Nat.le_refl _)
      have hw9 := hbA9.size
      go_wp2_with fail
      refine (select_head v9 u8 rs.length f (rr rs) ss w9 hv9.out HF9.out (fun k hk => HSR.out.2 k hk) (fun k hk => HST.out k hk) hrl HU9.out HSS.out HM9 (by omega)).mono ?_
      rintro e w10 ⟨got, rfl, hgot, hb10⟩
      have hbA10 := hbA9.trans (hb10.mono hbA9.size)
      have HGOT : Hid (Strs w10 got ((hits (rr rs) rs.length ss ss.length).map (sg ss))) := by
        have := hgot.out
        rw [select_eq HSO.out HG.out (fun k hk => HST.out k hk)] at this
        exact this
      have HSET : Hid (Cells w10 v9 rs.length f) := hv9.out.below hb10 (Nat.le_refl _)
      have HU10 : Hid (Strs w10 u8 ss) := HU9.out.below hb10 (Nat.le_refl _)
      have HF10 : Hid (∀ k, k < rs.length → Strs w10 (f k) (rr rs k)) := fun k hk => (HF9.out k hk).below hb10 (Nat.le_refl _)
      have HM10 : Hid (∃ m, w10.cell? ⟨0, 0, none⟩ = some (.int .i64 m)) := by obtain ⟨m, hm⟩ := HM9; exact ⟨m, (hb10.cell (p := ⟨0, 0, none⟩) (by show 0 < _; omega)).trans hm⟩
      have hw10 : 0 < w10.heap.size := by have := hb10.size; omega
      obtain ⟨ag, cg, hg1, hg2, HGC⟩ := HGOT.out.sized
      obtain ⟨au, cu, hu1, hu2, HUC⟩ := HU10.out.sized
      obtain ⟨aS, cS, hs1, hs2, HSC⟩ := HSET.out.formed
      have hhn := hits_le (rr rs) rs.length ss ss.length
      clear hgot HM9 HU9 HF9 HSET hv9 hu8 hcl hb79 hb7 hb8 hb9 hbA7 hbA8 hbA9 HST HSO HG HS HR HM HL hb4 hb10 hw9 HGOT
      subst hg1
      subst hu1
      subst hs1
      rw [List.length_map] at *
      go_wp2
      go_loopw [8, 9, 10, 11, 12] (fun c i _ _ _ wr => ∃ k : Nat, k ≤ ss.length ∧ i = .int .i64 k ∧ c = .int .i64 (hits (rr rs) rs.length ss k).length ∧ Below w10.heap.size w10 wr) (fun _ i _ _ _ _ => ss.length - (intOf i).toNat)
      case atStart => exact ⟨0, Nat.zero_le _, rfl, rfl, Below.refl _ _⟩
      case round =>
        obtain ⟨k, hk, rfl, rfl, hbel⟩ := hrel
        have hhk := hits_le (rr rs) rs.length ss k
        by_cases hlt : k < ss.length
        · obtain ⟨b, off, hau, hb, hcell0⟩ := HUC.out (by omega)
          have hcell : wr.cell? ⟨b, off + k, none⟩ = some (.string (sg ss k)) := (hbel.cell (p := ⟨b, off + k, none⟩) hb).trans (hcell0 k hlt)
          have hsz : (sg ss k).size ≤ 1048576 := HSS.out.2 k hlt
          have HMX : Hid (∃ m, wr.cell? ⟨0, 0, none⟩ = some (.int .i64 m)) := by obtain ⟨m, hm⟩ := HM10.out; exact ⟨m, (hbel.cell (p := ⟨0, 0, none⟩) hw10).trans hm⟩
          have HUS : Hid (∀ W, Below w10.heap.size w10 W → W.cell? ⟨b, off + k, none⟩ = some (.string (sg ss k))) := fun W hW => (hW.cell (p := ⟨b, off + k, none⟩) hb).trans (hcell0 k hlt)
          clear hcell0 HUC HM10
          subst hau
          go_wp2_with fail
          refine (splitPath_any _ _ hsz HMX.out).mono ?_
          rintro e w11 ⟨pv, rfl, hpv, hb11⟩
          have hbel11 : Below w10.heap.size w10 w11 := hbel.trans (hb11.mono hbel.size)
          have hsm := segs_small (sg ss k) hsz
          obtain ⟨ap, cp, hp1, _, _⟩ := hpv.out.sized
          subst hp1
          clear HMX hcell
          go_wp2
          go_loopw [11, 12] (fun h i wr => ∃ j : Nat, j ≤ rs.length ∧ i = .int .i64 j ∧ h = .bool false ∧ Hid (∀ t, t < j → pathM (rr rs t) (segs (sg ss k)) = false) ∧ Below w11.heap.size w11 wr) (fun _ i _ => rs.length - (intOf i).toNat)
          case atStart => exact ⟨0, Nat.zero_le _, rfl, rfl, (fun t ht => by omega), Below.refl _ _⟩
          case round =>
            obtain ⟨j, hj, rfl, rfl, hno, hbelj⟩ := hrel
            have hbw : Below w10.heap.size w10 wr := hbel11.trans (hbelj.mono hbel11.size)
            by_cases hjl : j < rs.length
            · obtain ⟨b2, off2, has2, hb2, hcells2⟩ := HSC.out (by omega)
              obtain ⟨a3, c3, hfj⟩ : ∃ a3 c3, f j = .slice a3 (rr rs j).length c3 := by
                obtain ⟨a, c, h, _⟩ := HF10.out j hjl
                exact ⟨a, c, h⟩
              have hcellj : wr.cell? ⟨b2, off2 + j, none⟩ = some (.slice a3 (rr rs j).length c3) := by
                rw [← hfj]; exact (hbw.cell (p := ⟨b2, off2 + j, none⟩) hb2).trans (hcells2 j hjl)
              have HFJ : Hid (Strs wr (.slice a3 (rr rs j).length c3) (rr rs j)) := by
                have := (HF10.out j hjl).below hbw (Nat.le_refl _); rw [hfj] at this; exact this
              have HPV : Hid (Strs wr (.slice ap (segs (sg ss k)).length cp) (segs (sg ss k))) := hpv.out.below hbelj (Nat.le_refl _)
              clear hcells2 hfj
              subst has2
              go_wp2_with fail
              refine (match_calls _ _ (rr rs j) (segs (sg ss k)) _ HFJ.out HPV.out (HSR.out.2 j hjl) hsm).mono ?_
              rintro e w12 ⟨rfl, hb12⟩
              have hbw12 : Below w10.heap.size w10 w12 := hbw.trans (hb12.mono hbw.size)
              cases hit : pathM (rr rs j) (segs (sg ss k)) with
              | false =>
                have hno2 : Hid (∀ t, t < j + 1 → pathM (rr rs t) (segs (sg ss k)) = false) := fun t ht => by
                  rcases Nat.lt_or_ge t j with h' | h'
                  · exact hno.out t h'
                  · rw [show t = j by omega]; exact hit
                go_wp2
                go_roundw
                case rel => exact ⟨j + 1, by omega, by go_num, rfl, hno2, hbelj.trans (hb12.mono hbelj.size)⟩
                case measure => simp [intOf]; omega
              | true =>
                have hH := hit_some (R := rr rs) (N := rs.length) (ss := ss) (i := k) hjl hit
                obtain ⟨hA1, hA2⟩ := hits_at (n := ss.length) hlt hH
                rw [List.length_map] at hA1
                obtain ⟨bg, offg, hag, hbg, hcellg0⟩ := HGC.out (by omega)
                have hcellg : w12.cell? ⟨bg, offg + (hits (rr rs) rs.length ss k).length, none⟩ = some (.string (sg ss k)) := by
                  rw [hbw12.cell (p := ⟨bg, offg + (hits (rr rs) rs.length ss k).length, none⟩) hbg, hcellg0 _ hA1, hA2]
                have hcellk := HUS.out w12 hbw12
                have HNX : Hid ((hits (rr rs) rs.length ss (k + 1)).length = (hits (rr rs) rs.length ss k).length + 1) := by
                  show _ = _
                  rw [hits_succ, if_pos hH]; simp
                have hd : decide (((hits (rr rs) rs.length ss ss.length).length : Int) ≤ ((hits (rr rs) rs.length ss k).length : Int)) = false := by simp; omega
                have hA3 : ((hits (rr rs) rs.length ss k).length : Int) < ((hits (rr rs) rs.length ss ss.length).length : Int) := by omega
                have hki : (k : Int) < (ss.length : Int) := by omega
                clear hcellg0 hA2 hH hcellj
                subst hag
                go_wp2
                go_quiet (fail)
                go_wp2
                go_roundw
                case rel => exact ⟨k + 1, by omega, by go_num, by rw [HNX.out]; go_num, below_drewN hbw12 _⟩
                case measure => simp [intOf]; omega
            · have hH : hitB (rr rs) rs.length ss k = false := hit_none (fun t ht => hno.out t (by omega))
              have HNX : Hid ((hits (rr rs) rs.length ss (k + 1)).length = (hits (rr rs) rs.length ss k).length) := by
                show _ = _
                rw [hits_succ, if_neg (by rw [hH]; simp)]; simp
              clear hH
              go_wp2
              go_roundw
              case rel => exact ⟨k + 1, by omega, by go_num, by rw [HNX.out], hbw⟩
              case measure => simp [intOf]; omega
        · obtain rfl : k = ss.length := by omega
          go_wp2
          go_ret
          exact ⟨by simp, hbA10.trans (hbel.mono hbA10.size)⟩
end Go.Proofs.Qxb6601214aDoor

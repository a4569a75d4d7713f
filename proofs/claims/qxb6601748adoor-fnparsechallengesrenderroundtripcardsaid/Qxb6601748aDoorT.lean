/- Seat b6601748aD: the law. -/
import Derived.Test.Qxb6601748aDoorS
namespace Go.Proofs.Qxb6601748aDoor
open Go.RowKit Go.PlainAid Go.Maps

set_option maxHeartbeats 6400000 in
set_option maxRecDepth 100000 in
theorem law_any (v : Value) (L : List Ch) (V : Nat → Value) (loose bare : Bool) (w : World) (hC : Chl w v L V) (hS : Short maxLen L) :
    Calls Tryd.prog 3 #[v, .bool loose, .bool bare] w fun e w' => e = .returned (.bool true) ∧ Below w.heap.size w w' := by
  have HC : Hid (Chl w v L V) := hC
  have HS : Hid (Short maxLen L) := hS
  obtain ⟨⟨ao, cap, rfl, hn, hx1⟩, hx2⟩ := hC
  clear hS hx1 hx2
  generalize hlen : L.length = n at *
  have HLen : Hid (L.length = n) := hlen
  clear hlen
  go_enter Tryd.func3, Tryd.ntmps3
  go_wp2_with fail
  refine (zzBytes_any _ L V _ _ w HC.out HS.out).mono ?_
  rintro e w1 ⟨he, hw1⟩
  subst hw1
  obtain ⟨w, rfl⟩ : ∃ x, x = w1 := ⟨w1, rfl⟩
  rcases he with rfl | rfl
  · go_wp2
    go_ret
    exact ⟨rfl, Below.refl _ _⟩
  · by_cases hn1 : 65536 < n
    · have g1 : decide ((65536 : Int) < (n : Int)) = true := by simp; omega
      go_wp2
      go_ret
      exact ⟨rfl, Below.refl _ _⟩
    · have g1 : decide ((65536 : Int) < (n : Int)) = false := by simp; omega
      go_wp2_with fail
      refine (chalBytes_any _ L V _ HC.out HS.out).mono ?_
      rintro e w2 ⟨r, rfl, hr, hr0, hr1, hb2⟩
      have HC2 := HC.out.below hb2 (Nat.le_refl _)
      by_cases hr2 : 65536 < r
      · have g2 : decide ((65536 : Int) < r) = true := by simp; omega
        go_wp2
        go_ret
        exact ⟨rfl, hb2⟩
      · have g2 : decide ((65536 : Int) < r) = false := by simp; omega
        have hcw := hr.out (by omega)
        have HCW : Hid (cw L L.length ≤ 65536) := hcw
        have HB : Hid (Bnd L) := bnd_of hcw
        have HC3 : Hid (Chl w2 _ L V) := HC2
        clear hcw hr HC2
        go_wp2_with fail
        refine (tokens_any _ L V _ HC3.out HS.out).mono ?_
        rintro e w3 ⟨rfl | ⟨rfl, htk⟩, rfl⟩
        · go_wp2
          go_ret
          exact ⟨rfl, hb2⟩
        · have HOk : Hid (∀ c ∈ L, ChOk c) := ok_of HB.out htk.out
          clear htk
          go_wp2_with fail
          refine (copy_any _ L V _ HC3.out (by rw [HLen.out]; omega) (fun i => (HB.out i).2.1)).mono ?_
          rintro e w4 ⟨v4, rfl, ⟨V4, hC4⟩, hb4⟩
          have HC4 : Hid (Chl w4 v4 L V4) := hC4
          have hb24 : Below w.heap.size w w4 := hb2.trans (hb4.mono hb2.size)
          clear hC4 hb4 HC3
          go_wp2_with fail
          refine (render_any v4 L V4 loose bare w4 HC4.out (by rw [HLen.out]; omega) HCW.out).mono ?_
          rintro e w5 ⟨v5, gs, rfl, hr5, hb5⟩
          obtain ⟨r1, r2, r3⟩ := hr5.out
          have hHdr := Hdr.of_own (T := gs.map fun x => ⟨(rC loose bare true x).toArray⟩) (by rw [List.map_map, List.length_map]; exact r2)
          have HHdr : Hid (Hdr w5 v5 (gs.map fun x => ⟨(rC loose bare true x).toArray⟩) ∧ gs.length ≤ 9223372036854775807) := ⟨hHdr.1, by simpa using hHdr.2⟩
          have HR1 : Hid (gs.flatten = L) := r1
          have HR3 : Hid (∀ x ∈ gs, (rC loose bare true x).length ≤ 131072) := r3
          have HC5 : Hid (Chl w5 v4 L V4) := HC4.out.below hb5 (Nat.le_refl _)
          have hb25 : Below w.heap.size w w5 := hb24.trans (hb5.mono hb24.size)
          clear r1 r2 r3 hHdr hr5 HC4 hb24 hb5
          go_wp2_with fail
          refine (zzparse_any v5 gs loose bare w5 HHdr.out.1 HHdr.out.2 HR3.out (by rw [HR1.out]; exact HOk.out) (by rw [HR1.out, HLen.out]; omega)).mono ?_
          rintro e w6 ⟨v6, E, rfl, hE, hb6⟩
          have HC6 : Hid (Chl w6 v4 L V4) := HC5.out.below hb6 (Nat.le_refl _)
          have hb26 : Below w.heap.size w w6 := hb25.trans (hb6.mono hb25.size)
          obtain ⟨ga, gc, hv6, hgot⟩ := hE.out.2.open (L := L) (by rw [hE.out.1, HR1.out])
          obtain ⟨⟨ca, cc, hv4, _, hcop⟩, hprm⟩ := HC6.out
          have HGot : Hid (0 < L.length → ∃ g, ga = some ⟨g, 0, none⟩ ∧ g < w6.heap.size ∧ ∀ i, i < L.length → ∃ mb, w6.cell? ⟨g, i * 2, none⟩ = some (.string (low (cg L i).sch)) ∧ w6.cell? ⟨g, i * 2 + 1, none⟩ = some (.map (some mb)) ∧ MapAt w6 mb (cg L i).ps.length (mpD (cg L i).ps)) := hgot
          have HCop : Hid (0 < L.length → ∃ b off, ca = some ⟨b, off, none⟩ ∧ b < w6.heap.size ∧ ∀ i, i < L.length → w6.cell? ⟨b, off + i * 3, none⟩ = some (.string (cg L i).sch) ∧ w6.cell? ⟨b, off + i * 3 + 1, none⟩ = some (V4 i) ∧ w6.cell? ⟨b, off + i * 3 + 2, none⟩ = some (.bool (cg L i).nh)) := hcop
          have HPrm : Hid (∀ i, i < L.length → Prm w6 (V4 i) (cg L i).ps) := hprm
          rw [HLen.out] at hv6 hv4 HGot HCop HPrm
          subst hv6 hv4
          clear hgot hcop hprm hE HC6 HC5 hb25 hb6 HHdr HR1 HR3
          go_wp2
          go_loopg [8] n (fun g iv wr => ∃ i : Nat, i ≤ n ∧ i + g = n ∧ iv = .int .i64 i ∧ Below w6.heap.size w6 wr)
          case atStart => exact ⟨0, Nat.zero_le _, by omega, rfl, Below.refl _ _⟩
          case round =>
            obtain ⟨i, hi, hig, rfl, hbel⟩ := hrel
            by_cases hlt : i < n
            · obtain ⟨gO, rfl⟩ : ∃ g, gk = g + 1 := ⟨gk - 1, by omega⟩
              obtain ⟨wA, rfl⟩ : ∃ x, x = wr := ⟨wr, rfl⟩
              obtain ⟨g, hga, hgl, hgc⟩ := HGot.out (by omega)
              obtain ⟨mb, m1, m2, m3⟩ := hgc i hlt
              obtain ⟨b, off, hca, hbl, hcc⟩ := HCop.out (by omega)
              obtain ⟨k1, k2, _⟩ := hcc i hlt
              have hP := HPrm.out i hlt
              obtain ⟨pa, pc, hpv, hpn, hpx⟩ := hP
              clear hpx
              have hP2 := HPrm.out i hlt
              rw [hpv] at hP2 k2
              have c1 := (hbel.cell (p := ⟨g, i * 2, none⟩) hgl).trans m1
              have c2 := (hbel.cell (p := ⟨g, i * 2 + 1, none⟩) hgl).trans m2
              have HMp : Hid (MapAt w6 mb (cg L i).ps.length (mpD (cg L i).ps)) := m3
              have HK1 : Hid (w6.cell? ⟨b, off + i * 3, none⟩ = some (.string (cg L i).sch)) := k1
              have HK2 : Hid (w6.cell? ⟨b, off + i * 3 + 1, none⟩ = some (.slice pa (cg L i).ps.length pc)) := k2
              have HPP : Hid (Prm w6 (.slice pa (cg L i).ps.length pc) (cg L i).ps) := hP2
              have hBi := HB.out i
              have hsz := hBi.1
              have hpl := hBi.2.1
              have HBj : Hid (∀ j, (pn (cg L i).ps j).size ≤ 65536 ∧ (pv (cg L i).ps j).size ≤ 65536) := hBi.2.2
              clear m1 m2 m3 hgc hcc k1 k2 hP2 hBi hpv
              subst hga hca
              generalize cg L i = ci at *
              go_upto_region 17 with fail
              have hbB : Below w6.heap.size w6 (wA.alloc (.cells #[.string (low ci.sch), .map (some mb)] 33)) := hbel.alloc hbel.size _
              have HBk : Hid ((wA.alloc (.cells #[.string (low ci.sch), .map (some mb)] 33)).heap[wA.heap.size]? = some (.cells #[.string (low ci.sch), .map (some mb)] 33 (0, 0))) := (MapKept.heap_alloc wA _).1
              have hsb : w6.heap.size ≤ wA.heap.size := hbel.size
              clear c1 c2 hbel
              generalize wA.alloc (.cells #[.string (low ci.sch), .map (some mb)] 33) = wB at *
              generalize wA.heap.size = sb at *
              clear wA
              have hsB := hbB.size
              go_cut [60] from 42 to 104 (fun bv wx => bv = .bool false ∧ Below wB.heap.size wB wx)
              case first =>
                have d0 := two_cell0 HBk.out
                have d1 := two_cell1 HBk.out
                have d2 := (hbB.cell (p := ⟨b, off + i * 3, none⟩) hbl).trans HK1.out
                go_region_with (first
                  | (go_at_call 10; refine (scheme_any _ _ _).mono ?_; rintro e w7 ⟨rfl, hb70⟩; have hb7 : Below wB.heap.size wB w7 := (Below.refl _ wB).drew.trans hb70; clear hb70; have d3 : w7.cell? ⟨b, off + i * 3, none⟩ = some (.string ci.sch) := (hb7.cell (p := ⟨b, off + i * 3, none⟩) (by simp; omega)).trans d2)
                  | (go_at_call 11; refine (lower_any _ _ hsz).mono ?_; rintro e w8 ⟨rfl, hb8⟩; have hb8' : Below wB.heap.size wB w8 := hb7.trans (hb8.mono hb7.size)))
                all_goals
                  go_wp2
                  go_meet
                  exact ⟨rfl, hb8'⟩
              case rest =>
                obtain ⟨rfl, hbc⟩ := hcut
                obtain ⟨wD, rfl⟩ : ∃ x, x = wc := ⟨wc, rfl⟩
                have hbD : Below w6.heap.size w6 wD := hbB.trans (hbc.mono hsB)
                have HBk2 : Hid (wD.heap[sb]? = some (.cells #[.string (low ci.sch), .map (some mb)] 33 (0, 0))) := (hbc.block sb (lt_of_heap HBk.out)).trans HBk.out
                have hsD := hbD.size
                have hsb2 := lt_of_heap HBk2.out
                clear hbc hbB hsB HBk
                have d4 := (hbD.cell (p := ⟨b, off + i * 3 + 1, none⟩) hbl).trans HK2.out
                generalize hm : ci.ps.length = m at *
                have HMm : Hid (ci.ps.length = m) := hm
                clear hm
                go_wp2
                clear d4
                go_loopg [11, 12] m (fun g dv jv wr => ∃ (j d : Nat), j ≤ m ∧ j + g = m ∧ d ≤ j ∧ dv = .int .i64 d ∧ jv = .int .i64 j ∧ Hid (d + toCount ci.ps j = toCount ci.ps 0) ∧ Below wD.heap.size wD wr)
                case atStart => exact ⟨0, 0, Nat.zero_le _, by omega, Nat.le_refl _, rfl, rfl, Nat.zero_add _, Below.refl _ _⟩
                case round =>
                  obtain ⟨j, d, hj, hjg, hdj, rfl, rfl, HT, hbel⟩ := hrel
                  by_cases hjl : j < m
                  · obtain ⟨gI, rfl⟩ : ∃ g, gk = g + 1 := ⟨gk - 1, by omega⟩
                    obtain ⟨wF, rfl⟩ : ∃ x, x = wr := ⟨wr, rfl⟩
                    obtain ⟨pa', pc', hpe, _, hpp⟩ := HPP.out
                    obtain ⟨b2, off2, hpa, hb2l, hpc⟩ := hpp (by rw [HMm.out]; omega)
                    have hpa2 : pa = some ⟨b2, off2, none⟩ := by
                      injection hpe with h1 _ _
                      rw [h1, hpa]
                    obtain ⟨n1, n2⟩ := hpc j (by rw [HMm.out]; exact hjl)
                    clear hpp hpc hpa hpe pa' pc'
                    subst hpa2
                    have hb6F : Below w6.heap.size w6 wF := hbD.trans (hbel.mono hsD)
                    have e1 := (hb6F.cell (p := ⟨b2, off2 + j * 2, none⟩) hb2l).trans n1
                    have hszn := (HBj.out j).1
                    go_wp2_with fail
                    refine (lower_any _ _ hszn).mono ?_
                    rintro e w9 ⟨rfl, hb9⟩
                    have hb69 : Below w6.heap.size w6 w9 := hb6F.trans (hb9.mono hb6F.size)
                    have hbD9 : Below wD.heap.size wD w9 := hbel.trans (hb9.mono hbel.size)
                    clear hb9 e1 hbel hb6F
                    go_wp2_with fail
                    refine (later_any _ ci.ps j (low (pn ci.ps j)) w9 (by have := HPP.out.below hb69 (Nat.le_refl _); exact this) (fun k => (HBj.out k).1) (by rw [HMm.out]; exact hjl) (by rw [HMm.out]; exact hpl)).mono ?_
                    rintro e w10 ⟨hl, hb10⟩
                    have hb610 : Below w6.heap.size w6 w10 := hb69.trans (hb10.mono hb69.size)
                    have hbD10 : Below wD.heap.size wD w10 := hbD9.trans (hb10.mono hbD9.size)
                    clear hb10 hb69 hbD9
                    rcases hl with ⟨rfl, hl⟩ | ⟨rfl, hl⟩
                    · go_wp2
                      go_roundg gI
                      case measure => omega
                      case rel => exact ⟨j + 1, d, by omega, by omega, by omega, rfl, by go_num, (show d + toCount ci.ps (j + 1) = toCount ci.ps 0 by rw [← (toCount_step ci.ps (by rw [HMm.out]; exact hjl)).1 hl.out]; exact HT.out), hbD10⟩
                    · have blk10 := (hbD10.block sb hsb2).trans HBk2.out
                      have f0 := two_cell0 blk10
                      have f1 := two_cell1 blk10
                      have hjl' : j < ci.ps.length := by rw [HMm.out]; exact hjl
                      have HMp10 : Hid (MapAt w10 mb m (mpD ci.ps)) := map_blk HMp.out (hb610.block mb HMp.out.lt)
                      have HAt : Hid (∀ z, (mpD ci.ps).atKey (.string (low (pn ci.ps j)).data.toList) z = vL (pv ci.ps j)) := fun z => (mpD_at ci.ps j hjl' hl.out z).1
                      have HHas : Hid (Maps.has (mpD ci.ps) (.string (low (pn ci.ps j)).data.toList) = true) := (mpD_at ci.ps j hjl' hl.out .nil).2
                      clear blk10
                      go_wp2_with fail
                      refine (param_any (low ci.sch) mb m (mpD ci.ps) (low (pn ci.ps j)) (pv ci.ps j) w10 HMp10.out (by rw [low_size]; unfold maxLen; omega) HAt.out HHas.out).mono ?_
                      rintro e w11 ⟨rfl, hb11⟩
                      have hb611 : Below w6.heap.size w6 w11 := hb610.trans (hb11.mono hb610.size)
                      have hbD11 : Below wD.heap.size wD w11 := hbD10.trans (hb11.mono hbD10.size)
                      have e2 := (hb611.cell (p := ⟨b2, off2 + j * 2 + 1, none⟩) hb2l).trans n2
                      clear hb11 hb610 hbD10 f0 f1
                      go_wp2
                      go_roundg gI
                      case measure => omega
                      case rel => exact ⟨j + 1, d + 1, by omega, by omega, by omega, by go_num, by go_num, (show d + 1 + toCount ci.ps (j + 1) = toCount ci.ps 0 by have h1 := (toCount_step ci.ps hjl').2 hl.out; have h2 := HT.out; omega), hbD11⟩
                  · obtain rfl : j = m := by omega
                    have hds : d = Maps.size (mpD ci.ps) := by
                      have h1 := HT.out
                      rw [toCount_zero] at h1
                      have h2 := toCount_end ci.ps
                      rw [HMm.out] at h2
                      omega
                    have hb6r : Below w6.heap.size w6 wr := hbD.trans (hbel.mono hsD)
                    have blk := (hbel.block sb hsb2).trans HBk2.out
                    have f0 := two_cell0 blk
                    have f1 := two_cell1 blk
                    have HMr : Hid (MapAt wr mb j (mpD ci.ps)) := map_blk HMp.out (hb6r.block mb HMp.out.lt)
                    clear blk
                    subst hds
                    go_wp2_with fail
                    refine (count_any (low ci.sch) mb j (mpD ci.ps) _ HMr.out).mono ?_
                    rintro e w12 ⟨rfl, hb12⟩
                    have hb612 : Below w6.heap.size w6 w12 := hb6r.trans (hb12.mono hb6r.size)
                    clear hb12
                    go_wp2
                    go_roundg gO
                    case measure => omega
                    case rel => exact ⟨i + 1, by omega, by omega, by go_num, hb612⟩
            · obtain rfl : i = n := by omega
              go_wp2
              go_ret
              exact ⟨rfl, hb26.trans (hbel.mono hb26.size)⟩
end Go.Proofs.Qxb6601748aDoor

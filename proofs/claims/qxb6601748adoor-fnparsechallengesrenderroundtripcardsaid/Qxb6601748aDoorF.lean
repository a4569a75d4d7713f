/- Seat b6601748aD: zzBytes. -/
import Derived.Test.Qxb6601748aDoorE
namespace Go.Proofs.Qxb6601748aDoor
open Go.RowKit Go.PlainAid

set_option maxHeartbeats 1600000 in
set_option maxRecDepth 100000 in
theorem zzBytes_any (v : Value) (L : List Ch) (V : Nat → Value) (l1 l2 : Value) (w : World) (hC : Chl w v L V) (hS : Short maxLen L) :
    Calls Tryd.prog 4 #[v, l1, l2] w fun e w' => (e = .returned (.bool false) ∨ e = .returned (.bool true)) ∧ w' = w := by
  have HCH : Hid (Chl w v L V) := hC
  obtain ⟨⟨ao, cap, rfl, hn, hc0⟩, hp0⟩ := hC
  have HS : Hid (Short maxLen L) := hS
  clear hc0 hp0 hS
  generalize hlen : L.length = n at *
  have HLen : Hid (L.length = n) := hlen
  clear hlen
  go_enter Tryd.func4, Tryd.ntmps4
  by_cases hn1 : n ≤ 1048576
  case neg =>
    go_wp2
    go_ret
    exact ⟨Or.inl rfl, rfl⟩
  go_wp2
  go_loop [7, 8] (fun tv iv => ∃ i T : Nat, i ≤ n ∧ T ≤ 1048576 ∧ iv = .int .i64 i ∧ tv = .int .i64 T) (fun _ i => n - (intOf i).toNat)
  case atStart => exact ⟨0, n, Nat.zero_le _, hn1, rfl, by go_num⟩
  case round =>
    obtain ⟨i, T, hi, hT, rfl, rfl⟩ := hrel
    by_cases hlt : i < n
    · obtain ⟨⟨ao', cap', hv, _, hc0⟩, hp0⟩ := HCH.out
      simp only [Value.slice.injEq] at hv
      obtain ⟨rfl, -, rfl⟩ := hv
      rw [HLen.out] at hc0 hp0
      obtain ⟨b, off, hao, hb, hcell0⟩ := hc0 (by omega)
      obtain ⟨c1, c2, c3⟩ := hcell0 i hlt
      obtain ⟨pa, pc, hpv, hpn, hpc⟩ := hp0 i hlt
      have HPC : Hid (0 < (cg L i).ps.length → ∃ b off, pa = some ⟨b, off, none⟩ ∧ b < w.heap.size ∧ ∀ j, j < (cg L i).ps.length → w.cell? ⟨b, off + j * 2, none⟩ = some (.string (pn (cg L i).ps j)) ∧ w.cell? ⟨b, off + j * 2 + 1, none⟩ = some (.string (pv (cg L i).ps j))) := hpc
      have HSJ : Hid (∀ j, (pn (cg L i).ps j).size ≤ maxLen ∧ (pv (cg L i).ps j).size ≤ maxLen) := (HS.out i).2
      have hsz : (cg L i).sch.size ≤ 9223372036854775807 := (HS.out i).1
      rw [hpv] at c2
      clear hcell0 hpc hpv hc0 hp0 c3
      subst hao
      generalize cg L i = ci at *
      by_cases h1 : ci.sch.size ≤ 1048576
      case neg =>
        go_wp2
        go_ret
        exact ⟨Or.inl rfl, rfl⟩
      clear hsz
      go_upto_region 13 with fail
      by_cases h2 : T + ci.sch.size ≤ 1048576
      case neg =>
        have hb5 : decide ((1048576 : Int) < (T : Int) + (ci.sch.size : Int)) = true := by simp; omega
        go_wp2
        go_ret
        exact ⟨Or.inl rfl, rfl⟩
      have hb5 : decide ((1048576 : Int) < (T : Int) + (ci.sch.size : Int)) = false := by simp; omega
      by_cases h3 : ci.ps.length ≤ 1048576
      case neg =>
        go_wp2
        go_ret
        exact ⟨Or.inl rfl, rfl⟩
      go_upto_region 18 with fail
      by_cases h4 : T + ci.sch.size + ci.ps.length ≤ 1048576
      case neg =>
        have hb6 : decide ((1048576 : Int) < (T : Int) + (ci.sch.size : Int) + (ci.ps.length : Int)) = true := by simp; omega
        go_wp2
        go_ret
        exact ⟨Or.inl rfl, rfl⟩
      have hb6 : decide ((1048576 : Int) < (T : Int) + (ci.sch.size : Int) + (ci.ps.length : Int)) = false := by simp; omega
      go_wp2
      clear hb5 hb6
      go_loop [7, 9] (fun tv jv => ∃ j T : Nat, j ≤ ci.ps.length ∧ T ≤ 1048576 ∧ jv = .int .i64 j ∧ tv = .int .i64 T) (fun _ j => ci.ps.length - (intOf j).toNat)
      case atStart => exact ⟨0, T + ci.sch.size + ci.ps.length, Nat.zero_le _, h4, rfl, by go_num⟩
      case round =>
        clear h2 h4 hT
        obtain ⟨j, T2, hj, hT2, rfl, rfl⟩ := hrel
        by_cases hjlt : j < ci.ps.length
        · obtain ⟨b2, off2, hpa, hb2, hc20⟩ := HPC.out (by omega)
          obtain ⟨d1, d2⟩ := hc20 j hjlt
          obtain ⟨hz1, hz2⟩ := HSJ.out j
          unfold maxLen at hz1 hz2
          have hlt2 : (j : Int) < (ci.ps.length : Int) := by omega
          clear hc20
          subst hpa
          generalize pn ci.ps j = nm at *
          generalize pv ci.ps j = vl at *
          by_cases h5 : nm.size ≤ 1048576
          case neg =>
            go_wp2
            go_ret
            exact ⟨Or.inl rfl, rfl⟩
          go_upto_region 26 with fail
          by_cases h6 : T2 + nm.size ≤ 1048576
          case neg =>
            have hb5 : decide ((1048576 : Int) < (T2 : Int) + (nm.size : Int)) = true := by simp; omega
            go_wp2
            go_ret
            exact ⟨Or.inl rfl, rfl⟩
          have hb5 : decide ((1048576 : Int) < (T2 : Int) + (nm.size : Int)) = false := by simp; omega
          by_cases h7 : vl.size ≤ 1048576
          case neg =>
            go_wp2
            go_ret
            exact ⟨Or.inl rfl, rfl⟩
          go_upto_region 31 with fail
          by_cases h8 : T2 + nm.size + vl.size ≤ 1048576
          case neg =>
            have hb6 : decide ((1048576 : Int) < (T2 : Int) + (nm.size : Int) + (vl.size : Int)) = true := by simp; omega
            go_wp2
            go_ret
            exact ⟨Or.inl rfl, rfl⟩
          have hb6 : decide ((1048576 : Int) < (T2 : Int) + (nm.size : Int) + (vl.size : Int)) = false := by simp; omega
          go_wp2
          go_round
          case rel => exact ⟨j + 1, T2 + nm.size + vl.size, by omega, h8, by go_num, by go_num⟩
          case measure => simp [intOf]; omega
        · go_wp2
          go_round
          case rel => exact ⟨i + 1, T2, by omega, hT2, by go_num, rfl⟩
          case measure => simp [intOf]; omega
    · go_wp2
      go_ret
      exact ⟨Or.inr rfl, rfl⟩
end Go.Proofs.Qxb6601748aDoor

/- Seat b6601748aD: chalBytes, zzBytes. -/
import Derived.Test.Qxb6601748aDoorD
import Derived.Deep.CutBlock
namespace Go.Proofs.Qxb6601748aDoor
open Go.RowKit Go.PlainAid

/-- What chalBytes counts: the first k parameters, the first i challenges. -/
def pw (ps : List Pm) : Nat → Nat
  | 0 => 0
  | k + 1 => pw ps k + ((pn ps k).size + (pv ps k).size + 32)
def cw (L : List Ch) : Nat → Nat
  | 0 => 0
  | i + 1 => cw L i + ((cg L i).sch.size + 48 + pw (cg L i).ps (cg L i).ps.length)

set_option maxHeartbeats 1600000 in
set_option maxRecDepth 100000 in
theorem chalBytes_any (v : Value) (L : List Ch) (V : Nat → Value) (w : World) (hC : Chl w v L V) (hS : Short maxLen L) :
    Calls Tryd.prog 5 #[v] w fun e w' => ∃ r : Int, e = .returned (.int .i64 r) ∧ Hid (r ≤ 65536 → cw L L.length ≤ 65536) ∧ 0 ≤ r ∧ r ≤ 1000000 ∧ Below w.heap.size w w' := by
  have HCH : Hid (Chl w v L V) := hC
  obtain ⟨⟨ao, cap, rfl, hn, hc0⟩, hp0⟩ := hC
  have HS : Hid (Short maxLen L) := hS
  clear hc0 hp0 hS
  generalize hlen : L.length = n at *
  have HLen : Hid (L.length = n) := hlen
  clear hlen
  go_enter Tryd.func5, Tryd.ntmps5
  go_wp2
  go_loopw [3, 4] (fun tv iv wr => ∃ i : Nat, i ≤ n ∧ cw L i ≤ 65536 ∧ iv = .int .i64 i ∧ tv = .int .i64 (cw L i : Nat) ∧ Below w.heap.size w wr) (fun _ i _ => n - (intOf i).toNat)
  case atStart => exact ⟨0, Nat.zero_le _, by simp [cw], rfl, rfl, Below.refl _ _⟩
  case round =>
    obtain ⟨i, hi, hci, rfl, rfl, hbel⟩ := hrel
    by_cases hlt : i < n
    · obtain ⟨⟨ao', cap', hv, _, hc0⟩, hp0⟩ := HCH.out
      simp only [Value.slice.injEq] at hv
      obtain ⟨rfl, -, rfl⟩ := hv
      rw [HLen.out] at hc0 hp0
      obtain ⟨b, off, hao, hb, hcell0⟩ := hc0 (by omega)
      obtain ⟨c1w, c2w, c3w⟩ := hcell0 i hlt
      obtain ⟨pa, pc, hpv, hpn, hpc⟩ := hp0 i hlt
      have HPC : Hid (0 < (cg L i).ps.length → ∃ b off, pa = some ⟨b, off, none⟩ ∧ b < w.heap.size ∧ ∀ j, j < (cg L i).ps.length → w.cell? ⟨b, off + j * 2, none⟩ = some (.string (pn (cg L i).ps j)) ∧ w.cell? ⟨b, off + j * 2 + 1, none⟩ = some (.string (pv (cg L i).ps j))) := hpc
      have HSJ : Hid (∀ j, (pn (cg L i).ps j).size ≤ maxLen ∧ (pv (cg L i).ps j).size ≤ maxLen) := (HS.out i).2
      have hsz : (cg L i).sch.size ≤ 9223372036854775807 := (HS.out i).1
      have HCW : Hid (cw L (i + 1) = cw L i + ((cg L i).sch.size + 48 + pw (cg L i).ps (cg L i).ps.length)) := rfl
      rw [hpv] at c2w
      have c1 := (hbel.cell (p := ⟨b, off + i * 3, none⟩) hb).trans c1w
      have c2 := (hbel.cell (p := ⟨b, off + i * 3 + 1, none⟩) hb).trans c2w
      have HC2 : Hid (w.cell? ⟨b, off + i * 3 + 1, none⟩ = some (.slice pa (cg L i).ps.length pc)) := c2w
      clear hcell0 hpc hpv hc0 hp0 c1w c2w c3w
      subst hao
      generalize hcg : cg L i = ci at *
      clear hcg
      generalize cw L i = T at *
      by_cases h1 : ci.sch.size ≤ 65536
      case neg =>
        go_wp2
        go_ret
        exact ⟨65537, rfl, (fun h => absurd h (by omega)), by omega, by omega, hbel⟩
      by_cases h2 : ci.ps.length ≤ 65536
      case neg =>
        go_wp2
        go_ret
        exact ⟨65537, rfl, (fun h => absurd h (by omega)), by omega, by omega, hbel⟩
      go_wp2
      clear c1 c2
      go_loopw [3, 5] (fun tv jv wr => ∃ j : Nat, j ≤ ci.ps.length ∧ T + (ci.sch.size + 48 + pw ci.ps j) ≤ 200000 ∧ jv = .int .i64 j ∧ tv = .int .i64 (T + (ci.sch.size + 48 + pw ci.ps j) : Nat) ∧ Below w.heap.size w wr) (fun _ j _ => ci.ps.length - (intOf j).toNat)
      case atStart => exact ⟨0, Nat.zero_le _, by simp [pw]; omega, rfl, by simp only [pw]; go_num, hbel⟩
      case round =>
        clear hbel
        obtain ⟨j, hj, hT, rfl, rfl, hbel⟩ := hrel
        have c2 := (hbel.cell (p := ⟨b, off + i * 3 + 1, none⟩) hb).trans HC2.out
        by_cases hjlt : j < ci.ps.length
        · obtain ⟨b2, off2, hpa, hb2, hc20⟩ := HPC.out (by omega)
          obtain ⟨d1w, d2w⟩ := hc20 j hjlt
          have d1 := (hbel.cell (p := ⟨b2, off2 + j * 2, none⟩) hb2).trans d1w
          have d2 := (hbel.cell (p := ⟨b2, off2 + j * 2 + 1, none⟩) hb2).trans d2w
          obtain ⟨hz1, hz2⟩ := HSJ.out j
          unfold maxLen at hz1 hz2
          have hlt2 : (j : Int) < (ci.ps.length : Int) := by omega
          have hbl := hbel.size
          clear hc20 d1w d2w
          subst hpa
          have HPW : Hid (pw ci.ps (j + 1) = pw ci.ps j + ((pn ci.ps j).size + (pv ci.ps j).size + 32)) := rfl
          generalize pw ci.ps j = Q at *
          generalize pn ci.ps j = nm at *
          generalize pv ci.ps j = vl at *
          have hbel2 : Below w.heap.size w (wr.alloc (Obj.cells #[Value.string nm, Value.string vl] 40)) := hbel.alloc hbl _
          by_cases h3 : nm.size ≤ 65536
          case neg =>
            go_wp2
            go_ret
            exact ⟨65537, rfl, (fun h => absurd h (by omega)), by omega, by omega, hbel2⟩
          by_cases h4 : vl.size ≤ 65536
          case neg =>
            go_wp2
            go_ret
            exact ⟨65537, rfl, (fun h => absurd h (by omega)), by omega, by omega, hbel2⟩
          clear hz1 hz2 hsz
          have HSUM : Hid (T + (ci.sch.size + 48 + pw ci.ps (j + 1)) = (T + (ci.sch.size + 48 + Q)) + (nm.size + vl.size + 32)) := by
            show _ = _
            rw [HPW.out]; omega
          clear HPW
          generalize T + (ci.sch.size + 48 + Q) = S at *
          generalize hna : nm.size = na at *
          generalize hvb : vl.size = vb at *
          go_upto_region 15 with fail
          by_cases h5 : S + (na + vb + 32) ≤ 65536
          · have hb5 : decide ((65536 : Int) < (S : Int) + ((na : Int) + (vb : Int) + 32)) = false := by simp; omega
            go_wp2
            go_roundw
            case rel => exact ⟨j + 1, by omega, by rw [HSUM.out]; omega, by go_num, by rw [HSUM.out]; go_num, hbel2⟩
            case measure => simp [intOf]; omega
          · have hb5 : decide ((65536 : Int) < (S : Int) + ((na : Int) + (vb : Int) + 32)) = true := by simp; omega
            go_wp2
            go_ret
            exact ⟨_, rfl, (fun h => absurd h (by omega)), by omega, by omega, hbel2⟩
        · obtain rfl : j = ci.ps.length := by omega
          have HCW2 : Hid (cw L (i + 1) = T + (ci.sch.size + 48 + pw ci.ps ci.ps.length)) := HCW
          clear HCW
          generalize pw ci.ps ci.ps.length = Q at *
          by_cases h5 : T + (ci.sch.size + 48 + Q) ≤ 65536
          · go_wp2
            go_roundw
            case rel => exact ⟨i + 1, by omega, by rw [HCW2.out]; omega, by go_num, by rw [HCW2.out], hbel⟩
            case measure => simp [intOf]; omega
          · go_wp2
            go_ret
            exact ⟨_, rfl, (fun h => absurd h (by omega)), by omega, by omega, hbel⟩
    · obtain rfl : i = n := by omega
      go_wp2
      go_ret
      exact ⟨_, rfl, (fun _ => hci), by omega, by omega, hbel⟩
end Go.Proofs.Qxb6601748aDoor

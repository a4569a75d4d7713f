/- Seat b6601748aD: challenges in memory; chalsAreTokens. -/
import Derived.Test.Qxb6601748aDoorC
namespace Go.Proofs.Qxb6601748aDoor
open Go.RowKit Go.PlainAid

/-- A parameter: its name, its value. -/
abbrev Pm := ByteArray × ByteArray
def pn (ps : List Pm) (j : Nat) : ByteArray := (ps.getD j (.empty, .empty)).1
def pv (ps : List Pm) (j : Nat) : ByteArray := (ps.getD j (.empty, .empty)).2
/-- A challenge: its scheme, its parameters, does it start a header. -/
structure Ch where
  sch : ByteArray
  ps : List Pm
  nh : Bool
def cg (L : List Ch) (i : Nat) : Ch := L.getD i ⟨.empty, [], false⟩

/-- The value is a slice of parameters. -/
def Prm (w : World) (v : Value) (ps : List Pm) : Prop :=
  ∃ ao cap, v = .slice ao ps.length cap ∧ ps.length ≤ 140737488355328 ∧
    (0 < ps.length → ∃ b off, ao = some ⟨b, off, none⟩ ∧ b < w.heap.size ∧ ∀ j, j < ps.length → w.cell? ⟨b, off + j * 2, none⟩ = some (.string (pn ps j)) ∧ w.cell? ⟨b, off + j * 2 + 1, none⟩ = some (.string (pv ps j)))
/-- The value is a slice of challenges, whose parameters' slices are V 0, V 1, .. -/
def Chl (w : World) (v : Value) (L : List Ch) (V : Nat → Value) : Prop :=
  (∃ ao cap, v = .slice ao L.length cap ∧ L.length ≤ 140737488355328 ∧
    (0 < L.length → ∃ b off, ao = some ⟨b, off, none⟩ ∧ b < w.heap.size ∧ ∀ i, i < L.length → w.cell? ⟨b, off + i * 3, none⟩ = some (.string (cg L i).sch) ∧ w.cell? ⟨b, off + i * 3 + 1, none⟩ = some (V i) ∧ w.cell? ⟨b, off + i * 3 + 2, none⟩ = some (.bool (cg L i).nh))) ∧
  ∀ i, i < L.length → Prm w (V i) (cg L i).ps
theorem Prm.below {w w' : World} {v : Value} {ps : List Pm} (h : Prm w v ps) {B : Nat} (hb : Below B w w') (hB : w.heap.size ≤ B) : Prm w' v ps := by
  obtain ⟨ao, cap, rfl, hn, h⟩ := h
  refine ⟨ao, cap, rfl, hn, fun hp => ?_⟩
  obtain ⟨b, off, rfl, hl, hc⟩ := h hp
  exact ⟨b, off, rfl, Nat.lt_of_lt_of_le hl hb.size, fun j hj => ⟨(hb.cell (p := ⟨b, off + j * 2, none⟩) (Nat.lt_of_lt_of_le hl hB)).trans (hc j hj).1, (hb.cell (p := ⟨b, off + j * 2 + 1, none⟩) (Nat.lt_of_lt_of_le hl hB)).trans (hc j hj).2⟩⟩
theorem Chl.below {w w' : World} {v : Value} {L : List Ch} {V : Nat → Value} (h : Chl w v L V) {B : Nat} (hb : Below B w w') (hB : w.heap.size ≤ B) : Chl w' v L V := by
  refine ⟨?_, fun i hi => (h.2 i hi).below hb hB⟩
  obtain ⟨ao, cap, rfl, hn, h⟩ := h.1
  refine ⟨ao, cap, rfl, hn, fun hp => ?_⟩
  obtain ⟨b, off, rfl, hl, hc⟩ := h hp
  have hl' := Nat.lt_of_lt_of_le hl hB
  exact ⟨b, off, rfl, Nat.lt_of_lt_of_le hl hb.size, fun i hi => ⟨(hb.cell (p := ⟨b, off + i * 3, none⟩) hl').trans (hc i hi).1, (hb.cell (p := ⟨b, off + i * 3 + 1, none⟩) hl').trans (hc i hi).2.1, (hb.cell (p := ⟨b, off + i * 3 + 2, none⟩) hl').trans (hc i hi).2.2⟩⟩

/-- All strings are short. -/
def Short (M : Nat) (L : List Ch) : Prop := ∀ i, (cg L i).sch.size ≤ M ∧ ∀ j, (pn (cg L i).ps j).size ≤ M ∧ (pv (cg L i).ps j).size ≤ M
/-- The schemes and the names are tokens. -/
def ChTok (c : Ch) : Prop := Tok c.sch ∧ ∀ j, j < c.ps.length → Tok (pn c.ps j)

set_option maxHeartbeats 800000 in
theorem tokens_any (v : Value) (L : List Ch) (V : Nat → Value) (w : World) (hC : Chl w v L V) (hS : Short maxLen L) :
    Calls Tryd.prog 6 #[v] w fun e w' => (e = .returned (.bool false) ∨ (e = .returned (.bool true) ∧ Hid (∀ i, i < L.length → ChTok (cg L i)))) ∧ w' = w := by
  obtain ⟨⟨ao, cap, rfl, hn, hc0⟩, hp0⟩ := hC
  have HC : Hid (0 < L.length → ∃ b off, ao = some ⟨b, off, none⟩ ∧ b < w.heap.size ∧ ∀ i, i < L.length → w.cell? ⟨b, off + i * 3, none⟩ = some (.string (cg L i).sch) ∧ w.cell? ⟨b, off + i * 3 + 1, none⟩ = some (V i) ∧ w.cell? ⟨b, off + i * 3 + 2, none⟩ = some (.bool (cg L i).nh)) := hc0
  have HP : Hid (∀ i, i < L.length → Prm w (V i) (cg L i).ps) := hp0
  have HS : Hid (Short maxLen L) := hS
  clear hc0 hp0 hS
  generalize hlen : L.length = n at *
  have HLen : Hid (L.length = n) := hlen
  clear hlen
  go_enter Tryd.func6, Tryd.ntmps6
  go_wp2
  go_loop [3] (fun iv => ∃ i : Nat, i ≤ n ∧ iv = .int .i64 i ∧ Hid (∀ k, k < i → ChTok (cg L k))) (fun i => n - (intOf i).toNat)
  case atStart => exact ⟨0, Nat.zero_le _, rfl, fun k hk => absurd hk (Nat.not_lt_zero _)⟩
  case round =>
    obtain ⟨i, hi, rfl, hall⟩ := hrel
    by_cases hlt : i < n
    · obtain ⟨b, off, hao, hb, hcell0⟩ := HC.out (by omega)
      obtain ⟨c1, c2, c3⟩ := hcell0 i hlt
      obtain ⟨pa, pc, hpv, hpn, hpc⟩ := HP.out i hlt
      have HPC : Hid (0 < (cg L i).ps.length → ∃ b off, pa = some ⟨b, off, none⟩ ∧ b < w.heap.size ∧ ∀ j, j < (cg L i).ps.length → w.cell? ⟨b, off + j * 2, none⟩ = some (.string (pn (cg L i).ps j)) ∧ w.cell? ⟨b, off + j * 2 + 1, none⟩ = some (.string (pv (cg L i).ps j))) := hpc
      have hsz := (HS.out i).1
      have HSJ : Hid (∀ j, (pn (cg L i).ps j).size ≤ maxLen ∧ (pv (cg L i).ps j).size ≤ maxLen) := (HS.out i).2
      rw [hpv] at c2
      clear hcell0 hpc hpv
      subst hao
      generalize hci : cg L i = ci at *
      have HCI : Hid (cg L i = ci) := hci
      clear hci
      go_wp2_with fail
      refine (isTokenString_any ci.sch _ hsz).mono ?_
      rintro e w1 ⟨⟨rfl, _⟩ | ⟨rfl, hts⟩, rfl⟩
      · go_wp2
        go_ret
        exact ⟨Or.inl rfl, rfl⟩
      · go_wp2
        go_loop [4] (fun jv => ∃ j : Nat, j ≤ ci.ps.length ∧ jv = .int .i64 j ∧ Hid (∀ k, k < j → Tok (pn ci.ps k))) (fun j => ci.ps.length - (intOf j).toNat)
        case atStart => exact ⟨0, Nat.zero_le _, rfl, fun k hk => absurd hk (Nat.not_lt_zero _)⟩
        case round =>
          obtain ⟨j, hj, rfl, hallj⟩ := hrel
          by_cases hjlt : j < ci.ps.length
          · obtain ⟨b2, off2, hpa, hb2, hc20⟩ := HPC.out (by omega)
            obtain ⟨d1, d2⟩ := hc20 j hjlt
            have hszj := (HSJ.out j).1
            clear hc20
            subst hpa
            go_wp2_with fail
            refine (isTokenString_any (pn ci.ps j) _ hszj).mono ?_
            rintro e w2 ⟨⟨rfl, _⟩ | ⟨rfl, htj⟩, rfl⟩
            · go_wp2
              go_ret
              exact ⟨Or.inl rfl, rfl⟩
            · have hall2 : Hid (∀ k, k < j + 1 → Tok (pn ci.ps k)) := fun k hk => by
                rcases Nat.lt_or_ge k j with h | h
                · exact hallj.out k h
                · rw [show k = j by omega]; exact htj.out
              go_wp2
              go_round
              case rel => exact ⟨j + 1, by omega, by go_num, hall2⟩
              case measure => simp [intOf]; omega
          · obtain rfl : j = ci.ps.length := by omega
            have hall2 : Hid (∀ k, k < i + 1 → ChTok (cg L k)) := fun k hk => by
              rcases Nat.lt_or_ge k i with h | h
              · exact hall.out k h
              · rw [show k = i by omega, HCI.out]; exact ⟨hts.out, hallj.out⟩
            go_wp2
            go_round
            case rel => exact ⟨i + 1, by omega, by go_num, hall2⟩
            case measure => simp [intOf]; omega
    · obtain rfl : i = n := by omega
      go_wp2
      go_ret
      exact ⟨Or.inr rfl, rfl⟩
end Go.Proofs.Qxb6601748aDoor

/- Seat b6601748aD: the law's parts: headers and challenges as they lie in memory; bounds. -/
import Derived.Test.Qxb6601748aDoorO
import Derived.Test.Qxb6601748aDoorP
import Derived.Test.Qxb6601748aDoorK
import Derived.Test.Qxb6601748aDoorF
namespace Go.Proofs.Qxb6601748aDoor
open Go.RowKit Go.PlainAid Go.Maps

theorem row_get {w : World} {n : Nat} {e : TypeId} {sz : Nat} {xs : List Value} {g : Nat} {cur : Array Value} (hg : w.heap[g]? = some (.cells cur e (0, 0))) (ht : cur.toList.take (n * sz) = xs) {k : Nat} {u : Value} (hk : xs[k]? = some u) : w.cell? ⟨g, k, none⟩ = some u := by
  rw [Lib.cell_of_heap hg]
  rw [← ht, List.getElem?_take] at hk
  split at hk
  · simpa using hk
  · cases hk
theorem Hdr.of_own {w : World} {B : Nat} {v : Value} {T : List ByteArray} (h : w.ownsRow B 9 1 v T.length (T.map fun x => .string x)) : Hdr w v T ∧ T.length ≤ 9223372036854775807 := by
  rcases h.2 with ⟨rfl, h0⟩ | ⟨g, cap, cur, rfl, _, hg, hnc, hcm, _, htk⟩
  · exact ⟨⟨none, 0, by rw [h0], fun hp => by omega⟩, by omega⟩
  · refine ⟨⟨_, _, rfl, fun _ => ⟨g, rfl, lt_of_heap hg, fun j hj => ?_⟩⟩, by unfold maxLen at hcm; omega⟩
    refine row_get hg htk ?_
    simp [List.getD, hj]
theorem gotCells_get : ∀ (E : List (Ch × Nat)) (i : Nat) (h : i < E.length), (gotCells E)[i * 2]? = some (.string (low E[i].1.sch)) ∧ (gotCells E)[i * 2 + 1]? = some (.map (some E[i].2))
  | e :: E, 0, _ => by simp [gotCells]
  | e :: E, i + 1, h => by
    have ih := gotCells_get E i (by simpa using h)
    have e1 : gotCells (e :: E) = .string (low e.1.sch) :: .map (some e.2) :: gotCells E := rfl
    rw [e1, show (i + 1) * 2 = i * 2 + 1 + 1 by omega]
    simpa using ih
theorem Got.open {w : World} {B : Nat} {v : Value} {E : List (Ch × Nat)} (h : Got w B v E) {L : List Ch} (hE : E.map (·.1) = L) :
    ∃ ao cap, v = .slice ao L.length cap ∧ (0 < L.length → ∃ g, ao = some ⟨g, 0, none⟩ ∧ g < w.heap.size ∧ ∀ i, i < L.length → ∃ mb, w.cell? ⟨g, i * 2, none⟩ = some (.string (low (cg L i).sch)) ∧ w.cell? ⟨g, i * 2 + 1, none⟩ = some (.map (some mb)) ∧ MapAt w mb (cg L i).ps.length (mpD (cg L i).ps)) := by
  have hlen : L.length = E.length := by rw [← hE]; simp
  rw [hlen]
  rcases h.1.2 with ⟨rfl, h0⟩ | ⟨g, cap, cur, rfl, _, hg, _, _, _, htk⟩
  · exact ⟨none, 0, by rw [h0], fun hp => by omega⟩
  · refine ⟨_, _, rfl, fun _ => ⟨g, rfl, lt_of_heap hg, fun i hi => ?_⟩⟩
    have hc : cg L i = E[i].1 := by
      subst hE
      simp [cg, List.getD, hi]
    rw [hc]
    have hgc := gotCells_get E i hi
    exact ⟨E[i].2, row_get hg htk hgc.1, row_get hg htk hgc.2, h.2 E[i] (List.getElem_mem hi)⟩

theorem pw_num (ps : List Pm) : ∀ k, 32 * k ≤ pw ps k
  | 0 => Nat.le_refl _
  | k + 1 => by have := pw_num ps k; simp only [pw]; omega
theorem pw_at (ps : List Pm) {j n : Nat} (h : j < n) : (pn ps j).size + (pv ps j).size + 32 ≤ pw ps n := by
  have := pw_mono ps (i := j + 1) (j := n) h
  simp only [pw] at this
  omega
theorem cw_at (L : List Ch) {i n : Nat} (h : i < n) : (cg L i).sch.size + 48 + pw (cg L i).ps (cg L i).ps.length ≤ cw L n := by
  have := cw_mono L (i := i + 1) (j := n) h
  simp only [cw] at this
  omega
theorem cw_num (L : List Ch) : ∀ k, 48 * k ≤ cw L k
  | 0 => Nat.le_refl _
  | k + 1 => by have := cw_num L k; simp only [cw]; omega
/-- The bounds that chalBytes gives. -/
def Bnd (L : List Ch) : Prop := ∀ i, (cg L i).sch.size ≤ 65536 ∧ (cg L i).ps.length ≤ 65536 ∧ ∀ j, (pn (cg L i).ps j).size ≤ 65536 ∧ (pv (cg L i).ps j).size ≤ 65536
theorem bnd_of {L : List Ch} (h : cw L L.length ≤ 65536) : Bnd L := by
  intro i
  by_cases hi : i < L.length
  · have h1 := cw_at L hi
    have h2 := pw_num (cg L i).ps (cg L i).ps.length
    refine ⟨by omega, by omega, fun j => ?_⟩
    by_cases hj : j < (cg L i).ps.length
    · have h3 := pw_at (cg L i).ps hj
      omega
    · have e1 : pn (cg L i).ps j = ByteArray.empty := by simp [pn, List.getD, hj]
      have e2 : pv (cg L i).ps j = ByteArray.empty := by simp [pv, List.getD, hj]
      rw [e1, e2]; decide
  · have e : cg L i = ⟨.empty, [], false⟩ := by simp [cg, List.getD, hi]
    rw [e]
    exact ⟨by decide, by decide, fun j => by
      have e1 : pn [] j = ByteArray.empty := by simp [pn, List.getD]
      have e2 : pv [] j = ByteArray.empty := by simp [pv, List.getD]
      rw [e1, e2]; decide⟩
theorem ok_of {L : List Ch} (hb : Bnd L) (ht : ∀ i, i < L.length → ChTok (cg L i)) : ∀ c ∈ L, ChOk c := by
  intro c hc
  obtain ⟨i, hi, rfl⟩ := List.getElem_of_mem hc
  have e : cg L i = L[i] := by simp [cg, List.getD, hi]
  have h1 := hb i
  have h2 := ht i hi
  rw [e] at h1 h2
  refine ⟨h2.1, h1.1, h1.2.1, fun q hq => ?_⟩
  obtain ⟨j, hj, rfl⟩ := List.getElem_of_mem hq
  have h3 := h2.2 j hj
  have h4 := h1.2.2 j
  rw [getD_ps _ hj]
  exact ⟨h3, h4.1, h4.2⟩

set_option maxHeartbeats 400000 in
theorem zzparse_any (v : Value) (gs : List (List Ch)) (loose bare : Bool) (w : World) (hH : Hdr w v (gs.map fun x => ⟨(rC loose bare true x).toArray⟩)) (hL : gs.length ≤ 9223372036854775807)
    (hlen : ∀ x ∈ gs, (rC loose bare true x).length ≤ 131072) (hok : ∀ c ∈ gs.flatten, ChOk c) (hfl : gs.flatten.length ≤ 65536) :
    Calls Tryd.prog 8 #[v] w fun e w' => ∃ (v' : Value) (E : List (Ch × Nat)), e = .returned v' ∧ Hid (E.map (·.1) = gs.flatten ∧ Got w' w.heap.size v' E) ∧ Below w.heap.size w w' := by
  have H : Hid (Calls Tryd.prog 16 #[v] w fun e w' => ∃ (v' : Value) (E : List (Ch × Nat)), e = .returned v' ∧ Hid (E.map (·.1) = gs.flatten ∧ Got w' w.heap.size v' E) ∧ Below w.heap.size w w') := parse_any v gs loose bare w hH hL hlen hok hfl
  clear hH hL hlen hok hfl
  go_enter Tryd.func8, Tryd.ntmps8
  go_wp2_with fail
  refine H.out.mono ?_
  rintro e w1 ⟨v1, E, rfl, h1, h2⟩
  go_wp2
  go_ret
  exact ⟨v1, E, rfl, h1, h2⟩
end Go.Proofs.Qxb6601748aDoor

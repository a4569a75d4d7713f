/- Seat b6601748aD: challenges, read as arguments. -/
import Derived.Test.Qxb6601748aDoorD
import Derived.Deep.Strs
import Derived.SizedLaws
import Derived.ProofKit
import Derived.OpenShut
namespace Go.Proofs.Qxb6601748aDoor
open Go.ChangeShapes Go.WideShapes Go.ChangeAt Go.RowKit
open Go.WideMaps Go.WideElems

section
variable {H : Type} {enc : TypeId × Value → H}

theorem mem_weightsAll {P : Program} {e : TypeId} {d : DataW H} {n : Nat} (hn : n ∈ d.weights P e) : ∀ {l : List (DataW H)}, d ∈ l → n ∈ DataW.weightsAll P e l
  | x :: l, h => by
    simp only [DataW.weightsAll, List.mem_append]
    rcases List.mem_cons.1 h with rfl | h
    · exact Or.inl hn
    · exact Or.inr (mem_weightsAll hn h)

theorem plain_addr {W : World} {a : Addr} {v : Value} (h : W.cell? a = some v) : ∃ b off, a = ⟨b, off, none⟩ ∧ b < W.heap.size := by
  obtain ⟨b, off, spot⟩ := a
  have hspot : spot = none := by simpa using World.cell?_spot h
  subst hspot
  exact ⟨b, off, rfl, World.block_lt_of_cell? W _ h⟩
theorem cells_at {W : World} {a : Addr} {n : Nat} {cs : List Value} (h : W.cells? 0 a n = some cs) : ∀ i v, cs[i]? = some v → W.cell? (a.add i) = some v := by
  obtain ⟨_, hl, hc⟩ := World.cells?_some h
  intro i v hv
  rw [hc i (by have := (List.getElem?_eq_some_iff.1 hv).1; omega)]
  exact hv
theorem addr_plain {a : Addr} {v : Value} {W : World} (h : W.cell? ((a.add 0).add 0) = some v) : ∃ b off, a = ⟨b, off, none⟩ ∧ b < W.heap.size := by
  have e : (a.add 0).add 0 = a := by simp [Addr.add]
  rw [e] at h
  exact plain_addr h
theorem cell_plain {b off i j : Nat} {v : Value} {W : World} (h : W.cell? (((⟨b, off, none⟩ : Addr).add i).add j) = some v) : W.cell? ⟨b, off + i + j, none⟩ = some v := by
  rw [add_plain, add_plain] at h
  exact h

/-- A challenge out of its parts. -/
def mkCh (q : (ByteArray × List Pm × Bool) × Value) : Ch := ⟨q.1.1, q.1.2.1, q.1.2.2⟩
theorem cells9 : Tryd.prog.cellsOf 9 = 1 := by kernel_rfl
theorem cells36 : Tryd.prog.cellsOf 36 = 1 := by kernel_rfl
theorem cells4 : Tryd.prog.cellsOf 4 = 1 := by kernel_rfl
theorem cells40 : Tryd.prog.cellsOf 40 = 2 := by kernel_rfl
theorem cells38 : Tryd.prog.cellsOf 38 = 3 := by kernel_rfl

theorem open_prm {W : World} {fuel : Nat} {cs : List Value} {d : DataW H} {p : List MemPlace} (h : DataW.trod enc Tryd.prog W 0 (fun _ => true) true fuel 36 cs = some (d, p))
    (hw : ∀ n ∈ d.weights Tryd.prog 36, n ≤ reachBytes) : ∃ v ps, cs = [v] ∧ Prm W v ps ∧ ∀ j, (pn ps j).size ≤ maxLen ∧ (pv ps j).size ≤ maxLen := by
  rcases Go.Deep.open_slice Tryd.underlying36 h with ⟨rfl, _⟩ | ⟨a, len, cap', m, n, D, Pl, rfl, _, hl, hm, hcap, hx, hc⟩
  · exact ⟨_, [], rfl, ⟨none, 0, rfl, by simp, fun h => absurd h (by simp)⟩, fun j => by simp [pn, pv, maxLen]⟩
  · simp only [Prod.mk.injEq] at hx
    obtain ⟨rfl, _⟩ := hx
    simp only [if_true] at hcap
    subst hcap
    have hb : Tryd.prog.bytesOf 40 = 32 := by kernel_rfl
    have h47 := reachBytes_lt
    have hlen : len ≤ 140737488355328 := by
      have := hw ((((List.range len).map D).length + ((List.range (m - len)).map fun j => D (len + j)).length) * Tryd.prog.bytesOf 40) (by simp [DataW.weights, Tryd.underlying36])
      rw [hb] at this
      simp at this
      omega
    have each : ∀ i, i < len → ∃ q : Pm, (W.cell? ((a.add (i * 2)).add 0) = some (.string q.1) ∧ W.cell? ((a.add (i * 2)).add 1) = some (.string q.2)) ∧ q.1.size ≤ maxLen ∧ q.2.size ≤ maxLen := fun i hi => by
      obtain ⟨cs', h1, h2⟩ := hc i (Nat.lt_of_lt_of_le hi hl)
      obtain ⟨y0, y1, n', _, hlen', f0, f1⟩ := trod_struct2 Tryd.underlying40 h2
      rw [cells40] at h1 hlen'
      match cs', hlen' with
      | [x0, x1], _ =>
        obtain ⟨s0, e0, _, z0⟩ := DataW.trod_string Tryd.underlying9 f0
        obtain ⟨s1, e1, _, z1⟩ := DataW.trod_string Tryd.underlying9 f1
        simp [cells9] at e0 e1
        subst e0 e1
        exact ⟨(s0, s1), ⟨cells_at h1 0 _ rfl, cells_at h1 1 _ rfl⟩, z0, z1⟩
    obtain ⟨R, hR⟩ := Go.Deep.choose_lt each
    have hpn : ∀ i, i < len → pn ((List.range len).map R) i = (R i).1 := fun i hi => by simp [pn, List.getD, hi]
    have hpv : ∀ i, i < len → pv ((List.range len).map R) i = (R i).2 := fun i hi => by simp [pv, List.getD, hi]
    refine ⟨_, (List.range len).map R, rfl, ⟨some a, m, by simp, by simpa using hlen, fun hp => ?_⟩, fun j => ?_⟩
    · have hp' : 0 < len := by simpa using hp
      obtain ⟨b, off, rfl, hbl⟩ := addr_plain (by simpa using (hR 0 hp').1.1)
      refine ⟨b, off, rfl, hbl, fun i hi => ?_⟩
      have hi' : i < len := by simpa using hi
      rw [hpn i hi', hpv i hi']
      exact ⟨cell_plain (hR i hi').1.1, cell_plain (hR i hi').1.2⟩
    · by_cases hj : j < len
      · rw [hpn j hj, hpv j hj]; exact (hR j hj).2
      · have e1 : pn ((List.range len).map R) j = ByteArray.empty := by simp [pn, List.getD, hj]
        have e2 : pv ((List.range len).map R) j = ByteArray.empty := by simp [pv, List.getD, hj]
        rw [e1, e2]; decide

theorem open_chl {W : World} {fuel : Nat} {cs : List Value} {d : DataW H} {p : List MemPlace} (h : DataW.trod enc Tryd.prog W 0 (fun _ => true) true fuel 22 cs = some (d, p))
    (hw : ∀ n ∈ d.weights Tryd.prog 22, n ≤ reachBytes) : ∃ v L V, cs = [v] ∧ Chl W v L V ∧ Short maxLen L := by
  rcases Go.Deep.open_slice Tryd.underlying22 h with ⟨rfl, _⟩ | ⟨a, len, cap', m, n, D, Pl, rfl, _, hl, hm, hcap, hx, hc⟩
  · exact ⟨_, [], fun _ => .slice none 0 0, rfl, ⟨⟨none, 0, rfl, by simp, fun h => absurd h (by simp)⟩, fun i hi => by simp at hi⟩, fun i => by simp [cg, pn, pv, maxLen]⟩
  · simp only [Prod.mk.injEq] at hx
    obtain ⟨rfl, _⟩ := hx
    simp only [if_true] at hcap
    subst hcap
    have hb : Tryd.prog.bytesOf 38 = 48 := by kernel_rfl
    have h47 := reachBytes_lt
    have hlen : len ≤ 140737488355328 := by
      have := hw ((((List.range len).map D).length + ((List.range (m - len)).map fun j => D (len + j)).length) * Tryd.prog.bytesOf 38) (by simp [DataW.weights, Tryd.underlying22])
      rw [hb] at this
      simp at this
      omega
    have each : ∀ i, i < len → ∃ q : (ByteArray × List Pm × Bool) × Value, (W.cell? ((a.add (i * 3)).add 0) = some (.string (mkCh q).sch) ∧ W.cell? ((a.add (i * 3)).add 1) = some q.2 ∧ W.cell? ((a.add (i * 3)).add 2) = some (.bool (mkCh q).nh)) ∧ Prm W q.2 (mkCh q).ps ∧
        (mkCh q).sch.size ≤ maxLen ∧ ∀ j, (pn (mkCh q).ps j).size ≤ maxLen ∧ (pv (mkCh q).ps j).size ≤ maxLen := fun i hi => by
      obtain ⟨cs', h1, h2⟩ := hc i (Nat.lt_of_lt_of_le hi hl)
      obtain ⟨y0, y1, y2, n', hy, hlen', f0, f1, f2⟩ := Go.Deep.trod_struct3 Tryd.underlying38 h2
      rw [cells38] at h1 hlen'
      match cs', hlen' with
      | [x0, x1, x2], _ =>
        obtain ⟨s0, e0, _, z0⟩ := DataW.trod_string Tryd.underlying9 f0
        obtain ⟨b2, e2, _⟩ := DataW.trod_bool Tryd.underlying4 f2
        simp [cells9, cells4] at e0 e2
        subst e0 e2
        obtain ⟨v1, ps, e1, hP, hS⟩ := open_prm f1 (fun k hk => hw k (by
          simp only [DataW.weights, Tryd.underlying22, List.mem_cons, List.mem_append]
          refine Or.inr (Or.inl (mem_weightsAll ?_ (List.mem_map.2 ⟨i, List.mem_range.2 hi, rfl⟩)))
          simp only [Prod.mk.injEq] at hy
          rw [hy.1]
          simp only [DataW.weights, Tryd.underlying38, DataW.weightsEach, List.map, List.mem_append]
          exact Or.inr (Or.inl hk)))
        simp [cells36] at e1
        subst e1
        exact ⟨((s0, ps, b2), x1), ⟨cells_at h1 0 _ rfl, cells_at h1 1 _ rfl, cells_at h1 2 _ rfl⟩, hP, z0, hS⟩
    obtain ⟨R, hR⟩ := Go.Deep.choose_lt each
    have hcg : ∀ i, i < len → cg ((List.range len).map fun i => mkCh (R i)) i = mkCh (R i) := fun i hi => by simp [cg, List.getD, hi]
    refine ⟨_, (List.range len).map fun i => mkCh (R i), fun i => (R i).2, rfl, ⟨⟨some a, m, by simp, by simpa using hlen, fun hp => ?_⟩, fun i hi => ?_⟩, fun i => ?_⟩
    · have hp' : 0 < len := by simpa using hp
      obtain ⟨b, off, rfl, hbl⟩ := addr_plain (by simpa using (hR 0 hp').1.1)
      refine ⟨b, off, rfl, hbl, fun i hi => ?_⟩
      have hi' : i < len := by simpa using hi
      rw [hcg i hi']
      exact ⟨cell_plain (hR i hi').1.1, cell_plain (hR i hi').1.2.1, cell_plain (hR i hi').1.2.2⟩
    · have hi' : i < len := by simpa using hi
      rw [hcg i hi']; exact (hR i hi').2.1
    · by_cases hi : i < len
      · rw [hcg i hi]; exact (hR i hi).2.2
      · have : cg ((List.range len).map fun i => mkCh (R i)) i = ⟨.empty, [], false⟩ := by simp [cg, List.getD, hi]
        rw [this]; simp [pn, pv, maxLen]
end
end Go.Proofs.Qxb6601748aDoor

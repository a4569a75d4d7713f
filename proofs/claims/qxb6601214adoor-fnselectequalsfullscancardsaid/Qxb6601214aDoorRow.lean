/- THE ROW AND THE TIED CARD OF FnSelectEqualsFullScan. -/
import Derived.Test.Qxb6601214aDoorTie
import Derived.Test.Qxb6601214aDoorCards
import Derived.Test.Qxb6601214aDoorN
import Derived.Deep.Strs
import Derived.SizedLaws
import Derived.ProofKit
import Derived.OpenShut
import Derived.LaidMore
import Derived.Lay
import Derived.SevenTiedAt
import Derived.Stop.Joined
namespace Go.Proofs.Qxb6601214aDoor.row
open Go.ChangeShapes Go.WideShapes Go.ChangeAt Go.RowKit
open Go.WideMaps Go.WideElems

theorem own : ownKnob Tryd.prog.godebug = none := by kernel_rfl
theorem laidOut : laidOutB Tryd.prog = true := by kernel_rfl

section
variable {H : Type} {enc : TypeId × Value → H}

theorem mem_weightsAll {P : Program} {e : TypeId} {d : DataW H} {n : Nat} (hn : n ∈ d.weights P e) : ∀ {l : List (DataW H)}, d ∈ l → n ∈ DataW.weightsAll P e l
  | x :: l, h => by
    simp only [DataW.weightsAll, List.mem_append]
    rcases List.mem_cons.1 h with rfl | h
    · exact Or.inl hn
    · exact Or.inr (mem_weightsAll hn h)

theorem plain_cells {w : World} {a : Addr} {n : Nat} {f : Nat → Value} (h : ∀ i, i < n → w.cell? (a.add i) = some (f i)) (hp : 0 < n) :
    ∃ b off, a = ⟨b, off, none⟩ ∧ b < w.heap.size ∧ ∀ i, i < n → w.cell? ⟨b, off + i, none⟩ = some (f i) := by
  obtain ⟨b, off, spot⟩ := a
  have hspot : spot = none := by simpa [Addr.add] using World.cell?_spot (h 0 hp)
  subst hspot
  have hc : ∀ i, i < n → w.cell? ⟨b, off + i, none⟩ = some (f i) := fun j hj => by rw [← Go.WideShapes.add_plain]; exact h j hj
  exact ⟨b, off, rfl, World.block_lt_of_cell? w _ (hc 0 hp), hc⟩

theorem open_ss {W : World} {fuel : Nat} {cs : List Value} {d : DataW H} {p : List MemPlace} (h : DataW.trod enc Tryd.prog W 0 (fun _ => true) true fuel 23 cs = some (d, p))
    (hw : ∀ n ∈ d.weights Tryd.prog 23, n ≤ reachBytes) : ∃ v ss, cs = [v] ∧ Strs W v ss ∧ ∀ j, (sg ss j).size ≤ maxLen := by
  rcases Go.Deep.open_strs Tryd.underlying23 Tryd.underlying9 (by kernel_rfl) h with ⟨rfl, _⟩ | ⟨a, len, cap', cap, Sx, rfl, _, hl, hm, hcap, hx, hc⟩
  · exact ⟨_, [], rfl, ⟨none, 0, rfl, by simp, by simp, fun h => absurd rfl h⟩, fun j => by simp [sg, maxLen]⟩
  · simp only [Prod.mk.injEq] at hx
    obtain ⟨rfl, _⟩ := hx
    simp only [if_true] at hcap
    subst hcap
    have hb : Tryd.prog.bytesOf 9 = 16 := by kernel_rfl
    have h47 := reachBytes_lt
    have hlen : len ≤ 140737488355328 := by
      have := hw ((((List.range len).map fun i => (DataW.lit (H := H) (.string (Sx i).data.toList))).length + ((List.range (cap - len)).map fun j => (DataW.lit (H := H) (.string (Sx (len + j)).data.toList))).length) * Tryd.prog.bytesOf 9) (by simp [DataW.weights, Tryd.underlying23])
      rw [hb] at this
      simp at this
      omega
    have hsg : ∀ i, i < len → sg ((List.range len).map Sx) i = Sx i := fun i hi => by simp [sg, List.getD, hi]
    refine ⟨_, (List.range len).map Sx, rfl, ⟨some a, cap, by simp, by simpa using hl, by simpa using hlen, fun hne => ?_⟩, fun j => ?_⟩
    · have hp : 0 < len := by
        rcases Nat.eq_zero_or_pos len with rfl | h
        · exact absurd rfl hne
        · exact h
      obtain ⟨b, off, rfl, hbl, hcc⟩ := plain_cells (f := fun i => .string (Sx i)) (fun i hi => (hc i (Nat.lt_of_lt_of_le hi hl)).1) hp
      refine ⟨b, off, rfl, hbl, fun i hi => ?_⟩
      have hi' : i < len := by simpa using hi
      rw [hsg i hi']; exact hcc i hi'
    · by_cases hj : j < len
      · rw [hsg j hj]; exact (hc j (Nat.lt_of_lt_of_le hj hl)).2
      · have : sg ((List.range len).map Sx) j = ByteArray.empty := by simp [sg, List.getD, hj]
        rw [this]; decide

theorem open_rws {W : World} {fuel : Nat} {cs : List Value} {d : DataW H} {p : List MemPlace} (h : DataW.trod enc Tryd.prog W 0 (fun _ => true) true fuel 22 cs = some (d, p))
    (hw : ∀ n ∈ d.weights Tryd.prog 22, n ≤ reachBytes) : ∃ v rs, cs = [v] ∧ Rws W v rs ∧ ∀ i j, (sg (rr rs i) j).size ≤ maxLen := by
  rcases Go.Deep.open_slice1 Tryd.underlying22 (by kernel_rfl) h with ⟨rfl, _⟩ | ⟨a, len, cap', cap, n, V, D, Pl, rfl, _, hl, hm, hcap, hx, hc⟩
  · refine ⟨_, [], rfl, ⟨⟨none, 0, rfl, by simp, by simp, fun h => absurd h (by simp)⟩, fun i hi => by simp at hi⟩, fun i j => by simp [sg, rr, maxLen]⟩
  · simp only [Prod.mk.injEq] at hx
    obtain ⟨rfl, _⟩ := hx
    simp only [if_true] at hcap
    subst hcap
    have hb : Tryd.prog.bytesOf 23 = 24 := by kernel_rfl
    have h47 := reachBytes_lt
    have hlen : len ≤ 140737488355328 := by
      have := hw ((((List.range len).map D).length + ((List.range (cap - len)).map fun j => D (len + j)).length) * Tryd.prog.bytesOf 23) (by simp [DataW.weights, Tryd.underlying22])
      rw [hb] at this
      simp at this
      omega
    have each : ∀ i, i < len → ∃ ss, Strs W (V i) ss ∧ ∀ j, (sg ss j).size ≤ maxLen := fun i hi => by
      obtain ⟨v, ss, he, h1, h2⟩ := open_ss (hc i (Nat.lt_of_lt_of_le hi hl)).2 (fun k hk => hw k (by
        simp only [DataW.weights, Tryd.underlying22, List.mem_cons, List.mem_append]
        exact Or.inr (Or.inl (mem_weightsAll hk (List.mem_map.2 ⟨i, List.mem_range.2 hi, rfl⟩)))))
      simp only [List.cons.injEq, and_true] at he
      subst he
      exact ⟨ss, h1, h2⟩
    obtain ⟨R, hR⟩ := Go.Deep.choose_lt each
    have hrv : ∀ i, i < len → rv ((List.range len).map fun i => (V i, R i)) i = V i := fun i hi => by simp [rv, List.getD, hi]
    have hrr : ∀ i, i < len → rr ((List.range len).map fun i => (V i, R i)) i = R i := fun i hi => by simp [rr, List.getD, hi]
    refine ⟨_, (List.range len).map fun i => (V i, R i), rfl, ⟨⟨some a, cap, by simp, by simpa using hl, by simpa using hlen, fun hp => ?_⟩, fun i hi => ?_⟩, fun i j => ?_⟩
    · have hp' : 0 < len := by simpa using hp
      obtain ⟨b, off, rfl, hbl, hcc⟩ := plain_cells (f := V) (fun i hi => (hc i (Nat.lt_of_lt_of_le hi hl)).1) hp'
      refine ⟨b, off, rfl, hbl, fun i hi => ?_⟩
      have hi' : i < len := by simpa using hi
      rw [hrv i hi']; exact hcc i hi'
    · have hi' : i < len := by simpa using hi
      rw [hrv i hi', hrr i hi']; exact (hR i hi').1
    · by_cases hi : i < len
      · rw [hrr i hi]; exact (hR i hi).2 j
      · have : rr ((List.range len).map fun i => (V i, R i)) i = [] := by simp [rr, List.getD, hi]
        rw [this]; simp [sg, maxLen]
end

set_option maxRecDepth 100000 in
theorem lifted (os : Os) (started : os.Started) (H : Type) (enc : TypeId × Value → H) :
    ReturnsInHanded {} Tryd.checked os 3 .any (fun w args => (Rows.fnSelectEqualsFullScanSpec.pre enc Tryd.prog Tryd.f3 Rows.fnSelectEqualsFullScanRow.domain false w args ∧ laidMetH Tryd.prog Rows.fnSelectEqualsFullScanRow.laid w) ∧ sizedMet enc Tryd.prog Tryd.f3 (OpenSpec.ofChange Rows.fnSelectEqualsFullScanSpec) false w args)
      (Rows.fnSelectEqualsFullScanSpec.post enc Tryd.prog Tryd.f3 false true false false) := by
  refine returnsInHanded_of_calls (C := Tryd.checked) own started (by kernel_rfl)
    (ChangeSpec.witness_shaped (enc := enc) (C := Tryd.checked) (os := os) (X := fun w _ => laidMetH Tryd.prog Rows.fnSelectEqualsFullScanRow.laid w) false (World.laidAll Tryd.prog os Rows.fnSelectEqualsFullScanRow.laid) #[.slice none 0 0, .slice none 0 0] 8 (World.laidAll_os _ _ _)
      (World.shaped_of_ZipB (by kernel_rfl) (by kernel_rfl)) (by kernel_rfl) (by kernel_rfl) (by kernel_rfl)
      (by rw [MakeChecks.laidMetH_plain _ _ _ (by kernel_rfl)]; exact laidMet_laidAll _ (by kernel_rfl) (by kernel_rfl))) ?_
  intro w tape i _ hsh _ hok hpre _
  obtain ⟨_, _, _, fn', hfn', _, _, _, _, hval0⟩ := hok
  obtain rfl : fn' = Tryd.f3 := Option.some.inj (hfn'.symm.trans Tryd.func3)
  obtain ⟨⟨⟨ds, gs, before, hw, hcn⟩, _⟩, hz⟩ := hpre
  have hsz := hz.weights hw
  have hW := DataW.Whole.of_heap (w' := w.forCall tape i) (by rfl) hw
  have hm : ∃ m, (w.forCall tape i).cell? ⟨0, 0, none⟩ = some (.int .i64 m) := Tryd.laysM146.s1_3 _ hsh
  generalize w.forCall tape i = W at *
  generalize i.args = args at *
  have hval : ∀ (j : Nat) t v, Tryd.f3.params[j]? = some t → args[j]? = some v → Value.okWide Tryd.prog W .any w.heap.size t v := hval0
  have hW' := hW
  obtain ⟨p, q, hA0, hV, rfl, _, _⟩ := hW
  have hA : DataW.TrodAll enc Tryd.prog W 0 (fun _ => true) true Tryd.f3.params.toList args.toList ds p := hA0
  rw [Tryd.params3] at hA hval hsz
  obtain ⟨v0, vs0, d0, ds0, p0, q0, hargs, rfl, rfl, h0, r0⟩ := trodAll_cons hA
  obtain ⟨v1, vs1, d1, ds1, p1, q1, rfl, rfl, rfl, h1, r1⟩ := trodAll_cons r0
  obtain ⟨rfl, rfl, rfl⟩ := trodAll_nil r1
  obtain rfl : args = #[v0, v1] := by cases args; simp_all
  obtain ⟨rfl, rfl⟩ := trodVars_none hV
  have hw0 : ∀ n ∈ d0.weights Tryd.prog 22, n ≤ reachBytes := fun n hn => by
    simpa using List.all_eq_true.1 hsz n (DataW.weights_mem_each (j := 0) rfl rfl n hn)
  have hw1 : ∀ n ∈ d1.weights Tryd.prog 23, n ≤ reachBytes := fun n hn => by
    simpa using List.all_eq_true.1 hsz n (DataW.weights_mem_each (j := 1) rfl rfl n hn)
  obtain ⟨a0, len0, cap0, e0⟩ := okWide_slice Tryd.underlying22 (hval 0 22 v0 rfl rfl)
  obtain ⟨a1, len1, cap1, e1⟩ := okWide_slice Tryd.underlying23 (hval 1 23 v1 rfl rfl)
  have hlt0 : ∀ x ∈ p0, x.block < W.heap.size := fun x hx => hW'.lt x (by simp [hx])
  have hlt1 : ∀ x ∈ p1, x.block < W.heap.size := fun x hx => hW'.lt x (by simp [hx])
  have hk0 : v0.cells.toList = [v0] := by rw [e0]; simp [Value.cells]
  have hk1 : v1.cells.toList = [v1] := by rw [e1]; simp [Value.cells]
  obtain ⟨v0', rs, hv0, hR, hl⟩ : ∃ v rs, [v0] = [v] ∧ Rws W v rs ∧ ∀ i j, (sg (rr rs i) j).size ≤ maxLen := by
    obtain ⟨fuel, hf⟩ := h0
    rw [hk0] at hf
    exact open_rws hf hw0
  obtain ⟨v1', ss, hv1, hS, hl2⟩ : ∃ v ss, [v1] = [v] ∧ Strs W v ss ∧ ∀ j, (sg ss j).size ≤ maxLen := by
    obtain ⟨fuel, hf⟩ := h1
    rw [hk1] at hf
    exact open_ss hf hw1
  obtain rfl : v0 = v0' := by simpa using hv0
  obtain rfl : v1 = v1' := by simpa using hv1
  clear hA0 hval0
  simp only [List.append_nil] at hW'
  have hpos : 0 < W.heap.size := by
    obtain ⟨m, hm⟩ := hm
    simpa using World.block_lt_of_cell? W _ hm
  refine (law_walk v0 v1 rs ss W hR hS hl hl2 hm hpos).mono fun e W' ⟨he, hb⟩ => ?_
  subst he
  refine ChangeSpec.post_blind ?_
  exact ⟨_, _, _, [], p0 ++ (p1 ++ []), [], hW', (trodAll_cons_mk (shut_bool Tryd.underlying4 _) trodAll_mk0),
    trodAll_cons_mk (Below.trod laidOut (by kernel_rfl) (of_decide_eq_true (by kernel_rfl)) h0 hb hlt0) (trodAll_cons_mk (Below.trod laidOut (by kernel_rfl) (of_decide_eq_true (by kernel_rfl)) h1 hb hlt1) trodAll_mk0), rfl, hb.frame _, fun h => by cases h⟩

theorem holds : Rows.FnSelectEqualsFullScanSaid :=
  OpenClaim.holds_of_wide 3 Tryd.f3 rfl rfl rfl rfl rfl rfl rfl ⟨rfl, rfl, rfl, rfl, rfl⟩ rfl rfl rfl rfl rfl (by kernel_rfl) Tryd.func3 (by kernel_rfl)
    (of_decide_eq_true (by kernel_rfl)) (by unfold Func.isWrapper; first | (rw [if_pos (by decide +kernel)]; kernel_rfl) | (rw [if_neg (by decide +kernel)]; exact ⟨rfl, rfl⟩))
    (fun os started H enc _ => lifted os started H enc)
end Go.Proofs.Qxb6601214aDoor.row
namespace Go.Proofs.Qxb6601214aDoor

/-- THE STATEMENT. -/
theorem fnSelectEqualsFullScan_card : Rows.FnSelectEqualsFullScanCardSaid :=
  Claim7.holds_tied_plain_at .later [] [.data, .pinned] true (true, "e8a7058e35c1877094d33356780f69c0a5769750d72b7bb17bf976d3259b38f8") false row.holds (fun _ h => by cases h) (by kernel_rfl) (fun _ h => by cases h) fnSelectEqualsFullScan_row_tie rfl ⟨rfl, rfl⟩ (by kernel_rfl) rfl
    (fun f fn hf hfn => by
      obtain rfl : f = 3 := Option.some.inj ((show Tryd.prog.funcNamed Tryd.f3.name = some 3 by kernel_rfl).symm.trans hf) |>.symm
      obtain rfl : fn = Tryd.f3 := (Option.some.inj (Tryd.func3.symm.trans hfn)).symm
      exact ⟨by kernel_rfl, fun j t ht => by
        rw [Tryd.params3] at ht
        have hm : t ∈ [22, 23] := by simpa using Array.mem_of_getElem? ht
        have hall : ([22, 23].all fun u => !Tryd.prog.wantsStandIn u) = true := by kernel_rfl
        exact (show Tryd.prog.wantsStandIn t = false by simpa using List.all_eq_true.1 hall t hm)⟩)
    (by kernel_rfl)
end Go.Proofs.Qxb6601214aDoor

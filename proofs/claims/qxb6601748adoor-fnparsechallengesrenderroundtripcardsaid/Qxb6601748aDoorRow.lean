/- THE ROW AND THE TIED CARD OF FnParseChallengesRenderRoundTrip. -/
import Derived.Test.Qxb6601748aDoorTie
import Derived.Test.Qxb6601748aDoorCards
import Derived.Test.Qxb6601748aDoorT
import Derived.Test.Qxb6601748aDoorQ
import Derived.SizedLaws
import Derived.ProofKit
import Derived.OpenShut
import Derived.LaidMore
import Derived.Lay
import Derived.SevenTiedAt
import Derived.Stop.Joined
namespace Go.Proofs.Qxb6601748aDoor.row
open Go.ChangeShapes Go.WideShapes Go.ChangeAt Go.RowKit
open Go.WideMaps Go.WideElems

theorem own : ownKnob Tryd.prog.godebug = none := by kernel_rfl
theorem laidOut : laidOutB Tryd.prog = true := by kernel_rfl

set_option maxRecDepth 100000 in
theorem lifted (os : Os) (started : os.Started) (H : Type) (enc : TypeId × Value → H) :
    ReturnsInHanded {} Tryd.checked os 3 .any (fun w args => (Rows.fnParseChallengesRenderRoundTripSpec.pre enc Tryd.prog Tryd.f3 Rows.fnParseChallengesRenderRoundTripRow.domain false w args ∧ laidMetH Tryd.prog Rows.fnParseChallengesRenderRoundTripRow.laid w) ∧ sizedMet enc Tryd.prog Tryd.f3 (OpenSpec.ofChange Rows.fnParseChallengesRenderRoundTripSpec) false w args)
      (Rows.fnParseChallengesRenderRoundTripSpec.post enc Tryd.prog Tryd.f3 false true false false) := by
  refine returnsInHanded_of_change_and (C := Tryd.checked) (X := fun w _ => laidMetH Tryd.prog Rows.fnParseChallengesRenderRoundTripRow.laid w) (fun _ _ _ hh h => h.of_heap hh) own started (by kernel_rfl) Tryd.func3
    (ChangeSpec.witness_shaped (enc := enc) (C := Tryd.checked) (os := os) (X := fun w _ => laidMetH Tryd.prog Rows.fnParseChallengesRenderRoundTripRow.laid w) false (World.laidAll Tryd.prog os Rows.fnParseChallengesRenderRoundTripRow.laid) #[.slice none 0 0, .bool false, .bool false] 8 (World.laidAll_os _ _ _)
      (World.shaped_of_ZipB (by kernel_rfl) (by kernel_rfl)) (by kernel_rfl) (by kernel_rfl) (by kernel_rfl)
      (by rw [MakeChecks.laidMetH_plain _ _ _ (by kernel_rfl)]; exact laidMet_laidAll _ (by kernel_rfl) (by kernel_rfl))) ?_
  intro W base args ds gs before hval0 hW _ hsz _ _
  have hval : ∀ (j : Nat) t v, Tryd.f3.params[j]? = some t → args[j]? = some v → Value.okWide Tryd.prog W .any base t v := hval0
  have hW' := hW
  obtain ⟨p, q, hA0, hV, rfl, _, _⟩ := hW
  have hA : DataW.TrodAll enc Tryd.prog W 0 (fun _ => true) true Tryd.f3.params.toList args.toList ds p := hA0
  have hsz' : (DataW.weightsEach Tryd.prog (Tryd.f3.params.toList ++ Rows.fnParseChallengesRenderRoundTripSpec.plain.varTypes Tryd.prog) (ds ++ gs)).all (· ≤ reachBytes) = true := hsz
  rw [Tryd.params3] at hA hval hsz'
  obtain ⟨v0, vs0, d0, ds0, p0, q0, hargs, rfl, rfl, h0, r0⟩ := trodAll_cons hA
  obtain ⟨v1, vs1, d1, ds1, p1, q1, rfl, rfl, rfl, h1, r1⟩ := trodAll_cons r0
  obtain ⟨v2, vs2, d2, ds2, p2, q2, rfl, rfl, rfl, h2, r2⟩ := trodAll_cons r1
  obtain ⟨rfl, rfl, rfl⟩ := trodAll_nil r2
  obtain rfl : args = #[v0, v1, v2] := by cases args; simp_all
  obtain ⟨rfl, rfl⟩ := trodVars_none hV
  have hw0 : ∀ n ∈ d0.weights Tryd.prog 22, n ≤ reachBytes := fun n hn => by
    simpa using List.all_eq_true.1 hsz' n (DataW.weights_mem_each (j := 0) rfl rfl n hn)
  obtain ⟨a0, len0, cap0, e0⟩ := okWide_slice Tryd.underlying22 (hval 0 22 v0 rfl rfl)
  obtain ⟨x1, rfl⟩ := okWide_bool Tryd.underlying4 (hval 1 4 v1 rfl rfl)
  obtain ⟨x2, rfl⟩ := okWide_bool Tryd.underlying4 (hval 2 4 v2 rfl rfl)
  have hlt0 : ∀ x ∈ p0, x.block < W.heap.size := fun x hx => hW'.lt x (by simp [hx])
  have hlt1 : ∀ x ∈ p1, x.block < W.heap.size := fun x hx => hW'.lt x (by simp [hx])
  have hlt2 : ∀ x ∈ p2, x.block < W.heap.size := fun x hx => hW'.lt x (by simp [hx])
  have hk0 : v0.cells.toList = [v0] := by rw [e0]; simp [Value.cells]
  obtain ⟨v0', L, V, hv0, hC, hS⟩ : ∃ v L V, [v0] = [v] ∧ Chl W v L V ∧ Short maxLen L := by
    obtain ⟨fuel, hf⟩ := h0
    rw [hk0] at hf
    exact open_chl hf hw0
  obtain rfl : v0 = v0' := by simpa using hv0
  clear hA0 hval0
  simp only [List.append_nil] at hW'
  refine (law_any v0 L V x1 x2 W hC hS).mono fun e W' ⟨he, hb⟩ => ?_
  subst he
  exact ⟨_, rfl, _, _, _, [], p0 ++ (p1 ++ (p2 ++ [])), [], hW', (trodAll_cons_mk (shut_bool Tryd.underlying4 _) trodAll_mk0),
    trodAll_cons_mk (Below.trod laidOut (by kernel_rfl) (of_decide_eq_true (by kernel_rfl)) h0 hb hlt0) (trodAll_cons_mk (Below.trod laidOut (by kernel_rfl) (of_decide_eq_true (by kernel_rfl)) h1 hb hlt1) (trodAll_cons_mk (Below.trod laidOut (by kernel_rfl) (of_decide_eq_true (by kernel_rfl)) h2 hb hlt2) trodAll_mk0)), rfl, hb.frame _, fun h => by cases h⟩

theorem holds : Rows.FnParseChallengesRenderRoundTripSaid :=
  OpenClaim.holds_of_wide 3 Tryd.f3 rfl rfl rfl rfl rfl rfl rfl ⟨rfl, rfl, rfl, rfl, rfl⟩ rfl rfl rfl rfl rfl (by kernel_rfl) Tryd.func3 (by kernel_rfl)
    (of_decide_eq_true (by kernel_rfl)) (by unfold Func.isWrapper; first | (rw [if_pos (by decide +kernel)]; kernel_rfl) | (rw [if_neg (by decide +kernel)]; exact ⟨rfl, rfl⟩))
    (fun os started H enc _ => lifted os started H enc)
end Go.Proofs.Qxb6601748aDoor.row
namespace Go.Proofs.Qxb6601748aDoor

/-- THE STATEMENT. -/
theorem fnParseChallengesRenderRoundTrip_card : Rows.FnParseChallengesRenderRoundTripCardSaid :=
  Claim7.holds_tied_plain_at .later [] [.data, .pinned, .pinned] true (true, "e81b05aacd3a0d2a5c4087299ea89883d9188b1578b9f3c0723a5c491d7759a3") false row.holds (fun _ h => by cases h) (by kernel_rfl) (fun _ h => by cases h) fnParseChallengesRenderRoundTrip_row_tie rfl ⟨rfl, rfl⟩ (by kernel_rfl) rfl
    (fun f fn hf hfn => by
      obtain rfl : f = 3 := Option.some.inj ((show Tryd.prog.funcNamed Tryd.f3.name = some 3 by kernel_rfl).symm.trans hf) |>.symm
      obtain rfl : fn = Tryd.f3 := (Option.some.inj (Tryd.func3.symm.trans hfn)).symm
      exact ⟨by kernel_rfl, fun j t ht => by
        rw [Tryd.params3] at ht
        have hm : t ∈ [22, 4, 4] := by simpa using Array.mem_of_getElem? ht
        have hall : ([22, 4, 4].all fun u => !Tryd.prog.wantsStandIn u) = true := by kernel_rfl
        exact (show Tryd.prog.wantsStandIn t = false by simpa using List.all_eq_true.1 hall t hm)⟩)
    (by kernel_rfl)
end Go.Proofs.Qxb6601748aDoor

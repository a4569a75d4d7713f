/- THE ROW AND THE TIED CARD OF FnCutFieldTokensCoverNonBlanks. -/
import Derived.Test.Qxb6601496aDoorTie
import Derived.Test.Qxb6601496aDoorCards
import Derived.Test.Qxb6601496aDoorE
import Derived.SizedLaws
import Derived.ProofKit
import Derived.OpenShut
import Derived.LaidMore
import Derived.Lay
import Derived.SevenTiedAt
import Derived.Stop.Joined
namespace Go.Proofs.Qxb6601496aDoor.rowT
open Go.ChangeShapes Go.WideShapes Go.ChangeAt Go.RowKit
open Go.WideMaps Go.WideElems

theorem own : ownKnob Tryd.prog.godebug = none := by kernel_rfl
theorem laidOut : laidOutB Tryd.prog = true := by kernel_rfl

theorem open_bs {H : Type} {enc : TypeId × Value → H} {W : World} {fuel : Nat} {cs : List Value} {d : DataW H} {p : List MemPlace} (h : DataW.trod enc Tryd.prog W 0 (fun _ => true) true fuel 22 cs = some (d, p))
    (hw : ∀ n ∈ d.weights Tryd.prog 22, n ≤ reachBytes) : ∃ a n c X, cs = [.slice a n c] ∧ In W a n X ∧ Byt X ∧ n ≤ 140737488355328 := by
  rcases open_ints Tryd.underlying22 Tryd.underlying5 (by kernel_rfl) h with ⟨rfl, _⟩ | ⟨a, len, cap, zs, rfl, _, hl, hm, hz, hx, hc, hwf⟩
  · exact ⟨none, 0, 0, fun _ => 0, rfl, fun h => absurd h (by omega), fun _ => show (0 : Int) ≤ 0 ∧ (0 : Int) < 256 by decide, by omega⟩
  · simp only [Prod.mk.injEq] at hx
    obtain ⟨rfl, _⟩ := hx
    simp only [if_true] at hz
    have hb : Tryd.prog.bytesOf 5 = 1 := by kernel_rfl
    have h47 := reachBytes_lt
    have hlen : len ≤ 140737488355328 := by
      have := hw (((lits (H := H) .u8 (zs.take len)).length + (lits (H := H) .u8 (zs.drop len)).length) * Tryd.prog.bytesOf 5) (by simp [DataW.weights, Tryd.underlying22])
      rw [hb] at this
      simp [lits] at this
      omega
    refine ⟨some a, len, cap, fun i => zs.getD i 0, rfl, fun hp => ?_, fun i => ?_, hlen⟩
    · obtain ⟨b, off, rfl, hcc⟩ := ints_at hc (by omega)
      exact ⟨b, off, rfl, World.block_lt_of_cell? W _ (hcc 0 (by omega)), fun i hi => hcc i (by omega)⟩
    · by_cases hi : i < zs.length
      · have := bounds_u8 (hwf (zs.getD i 0) (by simp [List.getD, hi]))
        show 0 ≤ zs.getD i 0 ∧ zs.getD i 0 < 256
        exact ⟨this.1, by omega⟩
      · have : zs.getD i 0 = 0 := by simp [List.getD, hi]
        show 0 ≤ zs.getD i 0 ∧ zs.getD i 0 < 256
        rw [this]; decide

set_option maxRecDepth 100000 in
theorem lifted (os : Os) (started : os.Started) (H : Type) (enc : TypeId × Value → H) :
    ReturnsInHanded {} Tryd.checked os 5 .any (fun w args => (Rows.fnCutFieldTokensCoverNonBlanksSpec.pre enc Tryd.prog Tryd.f5 Rows.fnCutFieldTokensCoverNonBlanksRow.domain false w args ∧ laidMetH Tryd.prog Rows.fnCutFieldTokensCoverNonBlanksRow.laid w) ∧ sizedMet enc Tryd.prog Tryd.f5 (OpenSpec.ofChange Rows.fnCutFieldTokensCoverNonBlanksSpec) false w args)
      (Rows.fnCutFieldTokensCoverNonBlanksSpec.post enc Tryd.prog Tryd.f5 false true false false) := by
  refine returnsInHanded_of_change_and (C := Tryd.checked) (X := fun w _ => laidMetH Tryd.prog Rows.fnCutFieldTokensCoverNonBlanksRow.laid w) (fun _ _ _ hh h => h.of_heap hh) own started (by kernel_rfl) Tryd.func5
    (ChangeSpec.witness_shaped (enc := enc) (C := Tryd.checked) (os := os) (X := fun w _ => laidMetH Tryd.prog Rows.fnCutFieldTokensCoverNonBlanksRow.laid w) false (World.laidAll Tryd.prog os Rows.fnCutFieldTokensCoverNonBlanksRow.laid) #[.slice none 0 0] 8 (World.laidAll_os _ _ _)
      (World.shaped_of_ZipB (by kernel_rfl) (by kernel_rfl)) (by kernel_rfl) (by kernel_rfl) (by kernel_rfl)
      (by rw [MakeChecks.laidMetH_plain _ _ _ (by kernel_rfl)]; exact laidMet_laidAll _ (by kernel_rfl) (by kernel_rfl))) ?_
  intro W base args ds gs before hval0 hW _ hsz _ _
  have hval : ∀ (j : Nat) t v, Tryd.f5.params[j]? = some t → args[j]? = some v → Value.okWide Tryd.prog W .any base t v := hval0
  have hW' := hW
  obtain ⟨p, q, hA0, hV, rfl, _, _⟩ := hW
  have hA : DataW.TrodAll enc Tryd.prog W 0 (fun _ => true) true Tryd.f5.params.toList args.toList ds p := hA0
  have hsz' : (DataW.weightsEach Tryd.prog (Tryd.f5.params.toList ++ Rows.fnCutFieldTokensCoverNonBlanksSpec.plain.varTypes Tryd.prog) (ds ++ gs)).all (· ≤ reachBytes) = true := hsz
  rw [Tryd.params5] at hA hval hsz'
  obtain ⟨v0, vs0, d0, ds0, p0, q0, hargs, rfl, rfl, h0, r0⟩ := trodAll_cons hA
  obtain ⟨rfl, rfl, rfl⟩ := trodAll_nil r0
  obtain rfl : args = #[v0] := by cases args; simp_all
  obtain ⟨rfl, rfl⟩ := trodVars_none hV
  have hw0 : ∀ n ∈ d0.weights Tryd.prog 22, n ≤ reachBytes := fun n hn => by
    simpa using List.all_eq_true.1 hsz' n (DataW.weights_mem_each (j := 0) rfl rfl n hn)
  obtain ⟨a0, len0, cap0, e0⟩ := okWide_slice Tryd.underlying22 (hval 0 22 v0 rfl rfl)
  have hlt0 : ∀ x ∈ p0, x.block < W.heap.size := fun x hx => hW'.lt x (by simp [hx])
  have hk0 : v0.cells.toList = [v0] := by rw [e0]; simp [Value.cells]
  obtain ⟨a, n, c, X, hv0, hI, hX, hn⟩ : ∃ a n c X, [v0] = [.slice a n c] ∧ In W a n X ∧ Byt X ∧ n ≤ 140737488355328 := by
    obtain ⟨fuel, hf⟩ := h0
    rw [hk0] at hf
    exact open_bs hf hw0
  obtain rfl : v0 = .slice a n c := by simpa using hv0
  clear hA0 hval0
  simp only [List.append_nil] at hW'
  refine (tokens_walk a n c X hX W hI hn).mono fun e W' ⟨he, hb⟩ => ?_
  subst he
  exact ⟨_, rfl, _, _, _, [], p0 ++ [], [], hW', (trodAll_cons_mk (shut_bool Tryd.underlying4 _) trodAll_mk0),
    trodAll_cons_mk (Below.trod laidOut (by kernel_rfl) (of_decide_eq_true (by kernel_rfl)) h0 hb hlt0) trodAll_mk0, rfl, hb.frame _, fun h => by cases h⟩

theorem holds : Rows.FnCutFieldTokensCoverNonBlanksSaid :=
  OpenClaim.holds_of_wide 5 Tryd.f5 rfl rfl rfl rfl rfl rfl rfl ⟨rfl, rfl, rfl, rfl, rfl⟩ rfl rfl rfl rfl rfl (by kernel_rfl) Tryd.func5 (by kernel_rfl)
    (of_decide_eq_true (by kernel_rfl)) (by unfold Func.isWrapper; first | (rw [if_pos (by decide +kernel)]; kernel_rfl) | (rw [if_neg (by decide +kernel)]; exact ⟨rfl, rfl⟩))
    (fun os started H enc _ => lifted os started H enc)
end Go.Proofs.Qxb6601496aDoor.rowT
namespace Go.Proofs.Qxb6601496aDoor

/-- THE STATEMENT. -/
theorem fnCutFieldTokensCoverNonBlanks_card : Rows.FnCutFieldTokensCoverNonBlanksCardSaid :=
  Claim7.holds_tied_plain_at .later [] [.data, .pinned] true (true, "e081fb513fcff72c1fbcfb0b0482ab307215307a157bb12c62ca04fb280e672d") false rowT.holds (fun _ h => by cases h) (by kernel_rfl) (fun _ h => by cases h) fnCutFieldTokensCoverNonBlanks_row_tie rfl ⟨rfl, rfl⟩ (by kernel_rfl) rfl
    (fun f fn hf hfn => by
      obtain rfl : f = 5 := Option.some.inj ((show Tryd.prog.funcNamed Tryd.f5.name = some 5 by kernel_rfl).symm.trans hf) |>.symm
      obtain rfl : fn = Tryd.f5 := (Option.some.inj (Tryd.func5.symm.trans hfn)).symm
      exact ⟨by kernel_rfl, fun j t ht => by
        rw [Tryd.params5] at ht
        have hm : t ∈ [22] := by simpa using Array.mem_of_getElem? ht
        have hall : ([22].all fun u => !Tryd.prog.wantsStandIn u) = true := by kernel_rfl
        exact (show Tryd.prog.wantsStandIn t = false by simpa using List.all_eq_true.1 hall t hm)⟩)
    (by kernel_rfl)
end Go.Proofs.Qxb6601496aDoor

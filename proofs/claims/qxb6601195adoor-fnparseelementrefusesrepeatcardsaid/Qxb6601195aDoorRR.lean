/- THE ROW AND THE TIED CARD OF FnParseElementRefusesRepeat. -/
import Derived.Test.Qxb6601195aDoorTie
import Derived.Test.Qxb6601195aDoorCards
import Derived.Test.Qxb6601195aDoorK
import Derived.ProofKit
import Derived.OpenShut
import Derived.LaidMore
import Derived.Lay
import Derived.SevenTiedAt
import Derived.Stop.Joined
namespace Go.Proofs.Qxb6601195aDoor.rr
open Go.ChangeShapes Go.WideShapes Go.ChangeAt Go.RowKit
open Go.WideMaps Go.WideElems
open Go.ChangeMaps (setBlock shut_map_nil open_string shut_string keptBut_setBlock frozen?_setBlock heap_setBlock_same)

theorem own : ownKnob Tryd.prog.godebug = none := by kernel_rfl

set_option maxRecDepth 100000 in
theorem lifted (os : Os) (started : os.Started) (H : Type) (enc : TypeId × Value → H) :
    ReturnsInHanded {} Tryd.checked os 4 .any (fun w args => (Rows.fnParseElementRefusesRepeatSpec.pre enc Tryd.prog Tryd.f4 Rows.fnParseElementRefusesRepeatRow.domain false w args ∧ laidMetH Tryd.prog Rows.fnParseElementRefusesRepeatRow.laid w) ∧ sizedMet enc Tryd.prog Tryd.f4 (OpenSpec.ofChange Rows.fnParseElementRefusesRepeatSpec) false w args)
      (Rows.fnParseElementRefusesRepeatSpec.post enc Tryd.prog Tryd.f4 false true false false) := by
  refine returnsInHanded_of_change_and (C := Tryd.checked) (X := fun w _ => laidMetH Tryd.prog Rows.fnParseElementRefusesRepeatRow.laid w) (fun _ _ _ hh h => h.of_heap hh) own started (by kernel_rfl) Tryd.func4
    (ChangeSpec.witness_shaped (enc := enc) (C := Tryd.checked) (os := os) (X := fun w _ => laidMetH Tryd.prog Rows.fnParseElementRefusesRepeatRow.laid w) false (World.laidAll Tryd.prog os Rows.fnParseElementRefusesRepeatRow.laid) #[.string .empty, .string .empty, .string .empty, .bool false, .int .u8 0, .int .u8 0, .bool false] 8 (World.laidAll_os _ _ _)
      (World.shaped_of_ZipB (by kernel_rfl) (by kernel_rfl)) (by kernel_rfl) (by kernel_rfl) (by kernel_rfl)
      (by rw [MakeChecks.laidMetH_plain _ _ _ (by kernel_rfl)]; exact laidMet_laidAll _ (by kernel_rfl) (by kernel_rfl))) ?_
  intro W base args ds gs before hval0 hW _ _ _ _
  have hval : ∀ (j : Nat) t v, Tryd.f4.params[j]? = some t → args[j]? = some v → Value.okWide Tryd.prog W .any base t v := hval0
  have hW' := hW
  obtain ⟨p, q, hA0, hV, rfl, _, _⟩ := hW
  have hA : DataW.TrodAll enc Tryd.prog W 0 (fun _ => true) true Tryd.f4.params.toList args.toList ds p := hA0
  rw [Tryd.params4] at hA hval
  obtain ⟨v0, vs0, d0, ds0, p0, q0, hargs, rfl, rfl, h0, r0⟩ := trodAll_cons hA
  obtain ⟨v1, vs1, d1, ds1, p1, q1, rfl, rfl, rfl, h1, r1⟩ := trodAll_cons r0
  obtain ⟨v2, vs2, d2, ds2, p2, q2, rfl, rfl, rfl, h2, r2⟩ := trodAll_cons r1
  obtain ⟨v3, vs3, d3, ds3, p3, q3, rfl, rfl, rfl, h3, r3⟩ := trodAll_cons r2
  obtain ⟨v4, vs4, d4, ds4, p4, q4, rfl, rfl, rfl, h4, r4⟩ := trodAll_cons r3
  obtain ⟨v5, vs5, d5, ds5, p5, q5, rfl, rfl, rfl, h5, r5⟩ := trodAll_cons r4
  obtain ⟨v6, vs6, d6, ds6, p6, q6, rfl, rfl, rfl, h6, r6⟩ := trodAll_cons r5
  obtain ⟨rfl, rfl, rfl⟩ := trodAll_nil r6
  obtain rfl : args = #[v0, v1, v2, v3, v4, v5, v6] := by cases args; simp_all
  obtain ⟨rfl, rfl⟩ := trodVars_none hV
  obtain ⟨first, rfl, rfl, rfl, s0⟩ := open_string Tryd.underlying9 (hval 0 9 v0 rfl rfl) h0
  obtain ⟨second, rfl, rfl, rfl, s1⟩ := open_string Tryd.underlying9 (hval 1 9 v1 rfl rfl) h1
  obtain ⟨rest, rfl, rfl, rfl, s2⟩ := open_string Tryd.underlying9 (hval 2 9 v2 rfl rfl) h2
  obtain ⟨pr, rfl, rfl, rfl⟩ := open_bool Tryd.underlying4 (hval 3 4 v3 rfl rfl) h3
  obtain ⟨c1, rfl, rfl, rfl, s4⟩ := open_int Tryd.underlying5 (hval 4 5 v4 rfl rfl) h4
  obtain ⟨c2, rfl, rfl, rfl, s5⟩ := open_int Tryd.underlying5 (hval 5 5 v5 rfl rfl) h5
  obtain ⟨al, rfl, rfl, rfl⟩ := open_bool Tryd.underlying4 (hval 6 4 v6 rfl rfl) h6
  clear hA0 hval0
  simp only [List.append_nil] at hW'
  refine (rr_walk first second rest pr c1 c2 al W s0 s1 s2 (bounds_u8 s4) (bounds_u8 s5)).mono fun e W' ⟨he, hb⟩ => ?_
  subst he
  exact ⟨_, rfl, _, _, _, [], [], [], hW', (trodAll_cons_mk (shut_bool Tryd.underlying4 _) trodAll_mk0), (trodAll_cons_mk (shut_string Tryd.underlying9 s0) (trodAll_cons_mk (shut_string Tryd.underlying9 s1) (trodAll_cons_mk (shut_string Tryd.underlying9 s2) (trodAll_cons_mk (shut_bool Tryd.underlying4 pr) (trodAll_cons_mk (shut_int Tryd.underlying5 s4) (trodAll_cons_mk (shut_int Tryd.underlying5 s5) (trodAll_cons_mk (shut_bool Tryd.underlying4 al) trodAll_mk0))))))), rfl, hb.frame _, fun h => by cases h⟩

theorem holds : Rows.FnParseElementRefusesRepeatSaid :=
  OpenClaim.holds_of_wide 4 Tryd.f4 rfl rfl rfl rfl rfl rfl rfl ⟨rfl, rfl, rfl, rfl, rfl⟩ rfl rfl rfl rfl rfl (by kernel_rfl) Tryd.func4 (by kernel_rfl)
    (of_decide_eq_true (by kernel_rfl)) (by unfold Func.isWrapper; first | (rw [if_pos (by decide +kernel)]; kernel_rfl) | (rw [if_neg (by decide +kernel)]; exact ⟨rfl, rfl⟩))
    (fun os started H enc _ => lifted os started H enc)
end Go.Proofs.Qxb6601195aDoor.rr
namespace Go.Proofs.Qxb6601195aDoor

/-- THE STATEMENT. -/
theorem fnParseElementRefusesRepeat_card : Rows.FnParseElementRefusesRepeatCardSaid :=
  Claim7.holds_tied_plain_at .later [] [.data, .data, .data, .pinned, .pinned] true (true, "488aa2df272d5e770d9d12e37aa63ac1134faa5ae981a78dc3c5602279e6d81e") false rr.holds (fun _ h => by cases h) (by kernel_rfl) (fun _ h => by cases h) fnParseElementRefusesRepeat_row_tie rfl ⟨rfl, rfl⟩ (by kernel_rfl) rfl
    (fun f fn hf hfn => by
      obtain rfl : f = 4 := Option.some.inj ((show Tryd.prog.funcNamed Tryd.f4.name = some 4 by kernel_rfl).symm.trans hf) |>.symm
      obtain rfl : fn = Tryd.f4 := (Option.some.inj (Tryd.func4.symm.trans hfn)).symm
      exact ⟨by kernel_rfl, fun j t ht => by
        rw [Tryd.params4] at ht
        have hm : t ∈ [9, 9, 9, 4, 5, 5, 4] := by simpa using Array.mem_of_getElem? ht
        have hall : ([9, 9, 9, 4, 5, 5, 4].all fun u => !Tryd.prog.wantsStandIn u) = true := by kernel_rfl
        exact (show Tryd.prog.wantsStandIn t = false by simpa using List.all_eq_true.1 hall t hm)⟩)
    (by kernel_rfl)
end Go.Proofs.Qxb6601195aDoor

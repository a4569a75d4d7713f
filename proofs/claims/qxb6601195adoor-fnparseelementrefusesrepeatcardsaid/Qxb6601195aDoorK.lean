/- Walks of seat b6601195aD: the second law. -/
import Derived.Test.Qxb6601195aDoorH
namespace Go.Proofs.Qxb6601195aDoor
open Go.RowKit Go.PlainAid

theorem rr_rest (rest : ByteArray) (k : Nat) (hk : k ≤ rest.size) (hb : ∀ j, j < k → blB (bt rest j) = true) (he : k < rest.size → blB (bt rest k) = false) :
    ∃ bl t : List UInt8, rest.data.toList = bl ++ t ∧ bl.length = k ∧ Blanks bl ∧ (t = [] ∨ ∃ c u, t = c :: u ∧ blB (c.toNat : Int) = false) := by
  have hl : rest.data.toList.length = rest.size := by simp
  have A : At rest 0 rest.data.toList := At.of_list rfl
  refine ⟨rest.data.toList.take k, rest.data.toList.drop k, (List.take_append_drop _ _).symm, by rw [List.length_take]; omega, ?_, ?_⟩
  · intro c hc
    obtain ⟨j, hj, rfl⟩ := List.mem_iff_getElem.1 hc
    rw [List.length_take] at hj
    rw [List.getElem_take]
    have h1 := hb j (by omega)
    have h2 := A.2 j _ (List.getElem?_eq_getElem (by omega))
    rw [Nat.zero_add] at h2
    rw [h2] at h1
    simp only [blB, Bool.or_eq_true, beq_iff_eq] at h1
    rcases h1 with h1 | h1
    · exact Or.inl (UInt8.toNat_inj.1 (show (rest.data.toList[j]).toNat = 32 by omega))
    · exact Or.inr (UInt8.toNat_inj.1 (show (rest.data.toList[j]).toNat = 9 by omega))
  · rcases Nat.lt_or_ge k rest.size with h | h
    · right
      have h1 := he h
      have h2 := A.2 k _ (List.getElem?_eq_getElem (by omega))
      rw [Nat.zero_add] at h2
      rw [h2] at h1
      exact ⟨_, _, List.drop_eq_getElem_cons (by omega), h1⟩
    · left
      exact List.drop_of_length_le (by omega)

theorem rr_head {hd first second rest : ByteArray} {ma mb qa qb : List UInt8} {all f1 : Bool} {k : Nat}
    (hh : hd = (({ data := ma.toArray } : ByteArray) ++ { data := #[61] } ++ { data := qa.toArray } ++ { data := #[59] } ++ { data := mb.toArray } ++ { data := #[61] } ++ { data := qb.toArray }))
    (hqa : qa = 34 :: (escs false first.data.toList ++ [34])) (hqb : qb = 34 :: (escs all second.data.toList ++ [34])) (hca : Named ma f1) (hcb : Named mb f1)
    (hla : ma.length ≤ 5) (hlb : mb.length ≤ 5) (hlqa : qa.length ≤ 524290) (hlqb : qb.length ≤ 524290) (hr : rest.size ≤ 262144)
    (hk : k ≤ rest.size) (hb : ∀ j, j < k → blB (bt rest j) = true) (he : k < rest.size → blB (bt rest k) = false) :
    ∃ I : PSt → Prop, I ⟨0, 0, false, false, ⟨#[]⟩, ⟨#[]⟩⟩ ∧ (∀ st, I st → st.i ≤ (hd ++ rest).size → st.pairs ≤ st.i → Step (hd ++ rest) I (fun n p i pairs ok => n = ⟨#[]⟩ ∧ p = ⟨#[]⟩ ∧ i = hd.size + k ∧ pairs = 1 ∧ ok = false) st) ∧ (hd ++ rest).size ≤ 16777216 ∧ hd.size ≤ 1100000 := by
  have e1 : hd.data.toList = pairOf ma false first.data.toList ++ 59 :: pairOf mb all second.data.toList := by
    rw [hh]; simp [pairOf, hqa, hqb]
  have e2 : hd.size = hd.data.toList.length := by simp
  have e3 : hd.size ≤ 1100000 := by
    rw [hh]; simp [ByteArray.size]; omega
  obtain ⟨bl, t, er, hbl, hB, ht⟩ := rr_rest rest k hk hb he
  obtain ⟨I, h0, hI⟩ := rr_states (hd ++ rest) ma first.data.toList mb second.data.toList bl t all f1 (by simp [e1, er]) hB ht hca hcb
  refine ⟨I, h0, fun st hst h1 h2 => ?_, by simp [ByteArray.size_append]; omega, e3⟩
  refine (hI st hst h1 h2).fin fun n p i pr ok hF => ?_
  obtain ⟨rfl, rfl, rfl, rfl, rfl⟩ := hF
  refine ⟨rfl, rfl, ?_, rfl, rfl⟩
  rw [e2, e1, ← hbl]; simp only [List.length_append, List.length_cons]; omega

set_option maxHeartbeats 1000000 in
set_option maxRecDepth 100000 in
theorem rr_walk (first second rest : ByteArray) (pr : Bool) (c1 c2 : Int) (all : Bool) (w : World)
    (hn : first.size ≤ maxLen) (hp : second.size ≤ maxLen) (hr : rest.size ≤ maxLen) (h1 : 0 ≤ c1 ∧ c1 ≤ 255) (h2 : 0 ≤ c2 ∧ c2 ≤ 255) :
    Calls Tryd.prog 4 #[.string first, .string second, .string rest, .bool pr, .int .u8 c1, .int .u8 c2, .bool all] w fun e w' => e = .returned (.bool true) ∧ Below w.heap.size w w' := by
  go_enter Tryd.func4, Tryd.ntmps4
  go_wp2_with fail
  refine (zzRR_any first second rest _ _ _ _ _ hn hp hr).mono ?_
  rintro e w' ⟨r, rfl, rfl⟩
  unfold maxLen at hn hp hr
  cases r
  · go_wp2
    go_ret
    exact ⟨rfl, Below.refl _ _⟩
  by_cases hsz : first.size ≤ 262144 ∧ second.size ≤ 262144 ∧ rest.size ≤ 262144
  case neg =>
    go_wp2_with fail
    all_goals
      go_ret
      exact ⟨rfl, Below.refl _ _⟩
  obtain ⟨hn2, hp2, hr2⟩ := hsz
  clear hn hp hr
  cases pr
  case' false =>
    go_wp2_with fail
    refine (case_calls [102, 111, 114] _ _ (by decide) h1).mono ?_
    rintro e w1 ⟨ma, rfl, hca, hla, hb1⟩
    go_wp2_with fail
    refine (case_calls [102, 111, 114] _ _ (by decide) h2).mono ?_
    rintro e w2 ⟨mb, rfl, hcb, hlb, hb2⟩
    have HA : Hid (Named ma true) := for_name hca.out
    have HB : Hid (Named mb true) := for_name hcb.out
  case' true =>
    go_wp2_with fail
    refine (case_calls [112, 114, 111, 116, 111] _ _ (by decide) h1).mono ?_
    rintro e w1 ⟨ma, rfl, hca, hla, hb1⟩
    go_wp2_with fail
    refine (case_calls [112, 114, 111, 116, 111] _ _ (by decide) h2).mono ?_
    rintro e w2 ⟨mb, rfl, hcb, hlb, hb2⟩
    have HA : Hid (Named ma false) := proto_name hca.out
    have HB : Hid (Named mb false) := proto_name hcb.out
  all_goals
    clear hca hcb
    go_wp2_with fail
    refine (quote_calls _ _ _ hn2).mono ?_
    rintro e w3 ⟨qa, rfl, hqa, hlqa, hb3⟩
    go_wp2_with fail
    refine (quote_calls _ _ _ hp2).mono ?_
    rintro e w4 ⟨qb, rfl, hqb, hlqb, hb4⟩
    have hbA : Below w'.heap.size w' w4 := ((hb1.trans (hb2.mono hb1.size)).trans (hb3.mono (Nat.le_trans hb1.size hb2.size))).trans (hb4.mono (Nat.le_trans (Nat.le_trans hb1.size hb2.size) hb3.size))
    clear hb1 hb2 hb3 hb4
    go_wp2_with fail
    have hg := get_bt rest
    generalize hh : (({ data := ma.toArray } : ByteArray) ++ { data := #[61] } ++ { data := qa.toArray } ++ { data := #[59] } ++ { data := mb.toArray } ++ { data := #[61] } ++ { data := qb.toArray }) = hd at *
    have HH : Hid (hd = (({ data := ma.toArray } : ByteArray) ++ { data := #[61] } ++ { data := qa.toArray } ++ { data := #[59] } ++ { data := mb.toArray } ++ { data := #[61] } ++ { data := qb.toArray })) := hh.symm
    clear hh
    go_loop [20] (fun x => ∃ k : Nat, k ≤ rest.size ∧ x = .int .i64 k ∧ Hid (∀ j, j < k → blB (bt rest j) = true)) (fun x => rest.size - (intOf x).toNat)
    case atStart => exact ⟨0, Nat.zero_le _, rfl, fun j hj => by omega⟩
    case round =>
      obtain ⟨k, hk, rfl, hb⟩ := hrel
      by_cases hlt : k < rest.size ∧ blB (bt rest k) = true
      · obtain ⟨hlt, hbb⟩ := hlt
        go_wp2_with (go_at_call 11; refine (blankByte_any _ _).mono ?_; rintro e w' ⟨rfl, rfl⟩)
        go_round
        case rel => exact ⟨k + 1, by omega, by go_num, fun j hj => by rcases Nat.lt_or_ge j k with h | h; exact hb.out j h; rw [show j = k by omega]; exact hbb⟩
        case measure => simp [intOf]; omega
      · have he : k < rest.size → blB (bt rest k) = false := fun h => by
          rcases hx : blB (bt rest k) with _ | _
          · rfl
          · exact absurd ⟨h, hx⟩ hlt
        obtain ⟨I, hI0, hI, hsz, hsz2⟩ := rr_head HH.out hqa.out hqb.out HA.out HB.out hla hlb hlqa hlqb hr2 hk hb.out he
        have HI : Hid (∀ st, I st → st.i ≤ (hd ++ rest).size → st.pairs ≤ st.i → Step (hd ++ rest) I (fun n p i pairs ok => n = ⟨#[]⟩ ∧ p = ⟨#[]⟩ ∧ i = hd.size + k ∧ pairs = 1 ∧ ok = false) st) := hI
        have HI0 : Hid (I ⟨0, 0, false, false, ⟨#[]⟩, ⟨#[]⟩⟩) := hI0
        clear hI hI0
        by_cases hks : k < rest.size
        all_goals
          first | have hbb := he hks | skip
          clear he hlt
          go_wp2_with (first
            | (go_at_call 11; refine (blankByte_any _ _).mono ?_; rintro e w' ⟨rfl, rfl⟩)
            | (go_at_call 9; refine (zz_any _ I _ _ hsz HI.out HI0.out).mono ?_; rintro e w9 ⟨nd, pr, i, prs, ok, rfl, ⟨rfl, rfl, rfl, rfl, rfl⟩, hb9⟩))
          go_ret
          exact ⟨rfl, hbA.trans (hb9.mono hbA.size)⟩
end Go.Proofs.Qxb6601195aDoor

/- Walks of seat b6601195aD: the laws. -/
import Derived.Test.Qxb6601195aDoorG
namespace Go.Proofs.Qxb6601195aDoor
open Go.RowKit Go.PlainAid

/-! The callees once more: each string under a name of its own. -/
theorem quote_calls (s : ByteArray) (all : Bool) (w : World) (hs : s.size ≤ 262144) :
    Calls Tryd.prog 7 #[.string s, .bool all] w fun e w' => ∃ m : List UInt8, e = .returned (.string ⟨m.toArray⟩) ∧ Hid (m = 34 :: (escs all s.data.toList ++ [34])) ∧ m.length ≤ 524290 ∧ Below w.heap.size w w' := by
  refine (quoteValue_any s all w hs).mono ?_
  rintro e w' ⟨rfl, hb⟩
  refine ⟨_, rfl, rfl, ?_, hb⟩
  have := escs_le all s.data.toList
  simp at this ⊢
  omega
theorem case_calls (l : List UInt8) (mask : Int) (w : World) (hl : l.length ≤ 5) (h : 0 ≤ mask ∧ mask ≤ 255) :
    Calls Tryd.prog 6 #[.string ⟨l.toArray⟩, .int .u8 mask] w fun e w' => ∃ m : List UInt8, e = .returned (.string ⟨m.toArray⟩) ∧ Hid (CaseOf l m) ∧ m.length ≤ 5 ∧ Below w.heap.size w w' := by
  refine (caseWord_any ⟨l.toArray⟩ mask w (by simp [ByteArray.size]; omega) h.1 h.2).mono ?_
  rintro e w' ⟨m, rfl, hc, hb⟩
  exact ⟨m, rfl, hc, by rw [hc.1]; simpa using hl, hb⟩
theorem blank_calls (pat : Int) (w : World) (h : 0 ≤ pat ∧ pat ≤ 255) :
    Calls Tryd.prog 8 #[.int .u8 pat] w fun e w' => ∃ m : List UInt8, e = .returned (.string ⟨m.toArray⟩) ∧ m.length ≤ 3 ∧ Hid (∀ c ∈ m, c = 32 ∨ c = 9) ∧ Below w.heap.size w w' := by
  refine (blankRun_any pat w h.1 h.2).mono ?_
  rintro e w' ⟨m, rfl, h3, hc, hb⟩
  exact ⟨m, rfl, h3, hc, hb⟩

theorem Step.fin {s : ByteArray} {I : PSt → Prop} {F G : ByteArray → ByteArray → Nat → Nat → Bool → Prop} {st : PSt} (h : Step s I F st) (hG : ∀ n p i pr ok, F n p i pr ok → G n p i pr ok) : Step s I G st := by
  rcases h with ⟨j, a, b, c, d⟩ | h | ⟨j, q, e, m, l, isF, isP, hp, hr⟩
  · exact Or.inl ⟨j, a, b, c, hG _ _ _ _ _ d⟩
  · exact Or.inr (Or.inl h)
  · refine Or.inr (Or.inr ⟨j, q, e, m, l, isF, isP, hp, ?_⟩)
    rcases hr with h | h | ⟨a, b, c, d⟩ | ⟨a, b, d⟩
    · exact Or.inl h
    · exact Or.inr (Or.inl h)
    · exact Or.inr (Or.inr (Or.inl ⟨a, b, c, hG _ _ _ _ _ d⟩))
    · exact Or.inr (Or.inr (Or.inr ⟨a, b, hG _ _ _ _ _ d⟩))

/-- The head of the line, 'for' first, and what the parser makes of the line. -/
theorem rt_head_f {hd node proto : ByteArray} {ma mb qa qb bl1 bl2 bl3 bl4 : List UInt8} {all : Bool}
    (hh : hd = (({ data := bl1.toArray } : ByteArray) ++ ({ data := ma.toArray } ++ { data := #[61] } ++ { data := qa.toArray }) ++ { data := bl2.toArray } ++ { data := #[59] } ++ { data := bl3.toArray } ++ ({ data := mb.toArray } ++ { data := #[61] } ++ { data := qb.toArray }) ++ { data := bl4.toArray }))
    (hqa : qa = 34 :: (escs all node.data.toList ++ [34])) (hqb : qb = 34 :: (escs all proto.data.toList ++ [34])) (hca : CaseOf [102, 111, 114] ma) (hcb : CaseOf [112, 114, 111, 116, 111] mb)
    (b1 : Blanks bl1) (b2 : Blanks bl2) (b3 : Blanks bl3) (b4 : Blanks bl4) (rest : ByteArray) (hla : ma.length ≤ 5) (hlb : mb.length ≤ 5) (hlqa : qa.length ≤ 524290) (hlqb : qb.length ≤ 524290)
    (hl1 : bl1.length ≤ 3) (hl2 : bl2.length ≤ 3) (hl3 : bl3.length ≤ 3) (hl4 : bl4.length ≤ 3) (hr : rest.size ≤ 262144) :
    ∃ I : PSt → Prop, I ⟨0, 0, false, false, ⟨#[]⟩, ⟨#[]⟩⟩ ∧ (∀ st, I st → st.i ≤ (hd ++ { data := #[44] } ++ rest).size → st.pairs ≤ st.i → Step (hd ++ { data := #[44] } ++ rest) I (fun n p i pairs ok => n = node ∧ p = proto ∧ i = hd.size ∧ pairs = 2 ∧ ok = true) st) ∧ (hd ++ { data := #[44] } ++ rest).size ≤ 16777216 := by
  have e1 : hd.data.toList = bl1 ++ pairOf ma all node.data.toList ++ (bl2 ++ 59 :: (bl3 ++ pairOf mb all proto.data.toList ++ bl4)) := by
    rw [hh]; simp [pairOf, hqa, hqb]
  have e2 : hd.size = hd.data.toList.length := by simp
  have e3 : hd.size ≤ 1100000 := by
    rw [hh]; simp [ByteArray.size]; omega
  obtain ⟨I, h0, hI⟩ := rt_states (hd ++ { data := #[44] } ++ rest) bl1 ma node.data.toList bl2 bl3 mb proto.data.toList bl4 rest.data.toList all true (by simp [e1]) b1 b2 b3 b4 (for_name hca) (proto_name hcb)
  refine ⟨I, h0, fun st hst h1 h2 => ?_, by simp [ByteArray.size_append]; have : (⟨#[44]⟩ : ByteArray).size = 1 := rfl; omega⟩
  refine (hI st hst h1 h2).fin fun n p i pr ok hF => ?_
  obtain ⟨rfl, rfl, rfl, rfl, rfl⟩ := hF
  refine ⟨rfl, rfl, ?_, rfl, rfl⟩
  rw [e2, e1]; simp only [List.length_append, List.length_cons]; omega

theorem rt_head_p {hd node proto : ByteArray} {ma mb qa qb bl1 bl2 bl3 bl4 : List UInt8} {all : Bool}
    (hh : hd = (({ data := bl1.toArray } : ByteArray) ++ ({ data := mb.toArray } ++ { data := #[61] } ++ { data := qb.toArray }) ++ { data := bl2.toArray } ++ { data := #[59] } ++ { data := bl3.toArray } ++ ({ data := ma.toArray } ++ { data := #[61] } ++ { data := qa.toArray }) ++ { data := bl4.toArray }))
    (hqa : qa = 34 :: (escs all node.data.toList ++ [34])) (hqb : qb = 34 :: (escs all proto.data.toList ++ [34])) (hca : CaseOf [102, 111, 114] ma) (hcb : CaseOf [112, 114, 111, 116, 111] mb)
    (b1 : Blanks bl1) (b2 : Blanks bl2) (b3 : Blanks bl3) (b4 : Blanks bl4) (rest : ByteArray) (hla : ma.length ≤ 5) (hlb : mb.length ≤ 5) (hlqa : qa.length ≤ 524290) (hlqb : qb.length ≤ 524290)
    (hl1 : bl1.length ≤ 3) (hl2 : bl2.length ≤ 3) (hl3 : bl3.length ≤ 3) (hl4 : bl4.length ≤ 3) (hr : rest.size ≤ 262144) :
    ∃ I : PSt → Prop, I ⟨0, 0, false, false, ⟨#[]⟩, ⟨#[]⟩⟩ ∧ (∀ st, I st → st.i ≤ (hd ++ { data := #[44] } ++ rest).size → st.pairs ≤ st.i → Step (hd ++ { data := #[44] } ++ rest) I (fun n p i pairs ok => n = node ∧ p = proto ∧ i = hd.size ∧ pairs = 2 ∧ ok = true) st) ∧ (hd ++ { data := #[44] } ++ rest).size ≤ 16777216 := by
  have e1 : hd.data.toList = bl1 ++ pairOf mb all proto.data.toList ++ (bl2 ++ 59 :: (bl3 ++ pairOf ma all node.data.toList ++ bl4)) := by
    rw [hh]; simp [pairOf, hqa, hqb]
  have e2 : hd.size = hd.data.toList.length := by simp
  have e3 : hd.size ≤ 1100000 := by
    rw [hh]; simp [ByteArray.size]; omega
  obtain ⟨I, h0, hI⟩ := rt_states (hd ++ { data := #[44] } ++ rest) bl1 mb proto.data.toList bl2 bl3 ma node.data.toList bl4 rest.data.toList all false (by simp [e1]) b1 b2 b3 b4 (proto_name hcb) (for_name hca)
  refine ⟨I, h0, fun st hst h1 h2 => ?_, by simp [ByteArray.size_append]; have : (⟨#[44]⟩ : ByteArray).size = 1 := rfl; omega⟩
  refine (hI st hst h1 h2).fin fun n p i pr ok hF => ?_
  obtain ⟨rfl, rfl, rfl, rfl, rfl⟩ := hF
  refine ⟨rfl, rfl, ?_, rfl, rfl⟩
  rw [e2, e1]; simp only [List.length_append, List.length_cons]; omega

set_option maxHeartbeats 1000000 in
set_option maxRecDepth 100000 in
theorem rt_walk (node proto rest : ByteArray) (pf : Bool) (fc pc b1 b2 b3 b4 : Int) (all : Bool) (w : World)
    (hn : node.size ≤ maxLen) (hp : proto.size ≤ maxLen) (hr : rest.size ≤ maxLen)
    (h1 : 0 ≤ fc ∧ fc ≤ 255) (h2 : 0 ≤ pc ∧ pc ≤ 255) (h3 : 0 ≤ b1 ∧ b1 ≤ 255) (h4 : 0 ≤ b2 ∧ b2 ≤ 255) (h5 : 0 ≤ b3 ∧ b3 ≤ 255) (h6 : 0 ≤ b4 ∧ b4 ≤ 255) :
    Calls Tryd.prog 3 #[.string node, .string proto, .string rest, .bool pf, .int .u8 fc, .int .u8 pc, .int .u8 b1, .int .u8 b2, .int .u8 b3, .int .u8 b4, .bool all] w fun e w' => e = .returned (.bool true) ∧ Below w.heap.size w w' := by
  go_enter Tryd.func3, Tryd.ntmps3
  go_wp2_with fail
  refine (zzRT_any node proto rest _ _ _ _ _ _ _ _ _ hn hp hr).mono ?_
  rintro e w' ⟨r, rfl, rfl⟩
  unfold maxLen at hn hp hr
  cases r
  · go_wp2
    go_ret
    exact ⟨rfl, Below.refl _ _⟩
  by_cases hsz : node.size ≤ 262144 ∧ proto.size ≤ 262144 ∧ rest.size ≤ 262144
  case neg =>
    go_wp2_with fail
    all_goals
      go_ret
      exact ⟨rfl, Below.refl _ _⟩
  obtain ⟨hn2, hp2, hr2⟩ := hsz
  clear hn hp hr
  go_wp2_with fail
  refine (case_calls [102, 111, 114] _ _ (by decide) h1).mono ?_
  rintro e w1 ⟨ma, rfl, hca, hla, hb1⟩
  go_wp2_with fail
  refine (quote_calls _ _ _ hn2).mono ?_
  rintro e w2 ⟨qa, rfl, hqa, hlqa, hb2⟩
  go_wp2_with fail
  refine (case_calls [112, 114, 111, 116, 111] _ _ (by decide) h2).mono ?_
  rintro e w3 ⟨mb, rfl, hcb, hlb, hb3⟩
  go_wp2_with fail
  refine (quote_calls _ _ _ hp2).mono ?_
  rintro e w4 ⟨qb, rfl, hqb, hlqb, hb4⟩
  have hbA : Below w'.heap.size w' w4 := ((hb1.trans (hb2.mono hb1.size)).trans (hb3.mono (Nat.le_trans hb1.size hb2.size))).trans (hb4.mono (Nat.le_trans (Nat.le_trans hb1.size hb2.size) hb3.size))
  clear hb1 hb2 hb3 hb4
  cases pf
  · go_wp2_with fail
    refine (blank_calls _ _ h3).mono ?_
    rintro e w5 ⟨bl1, rfl, hl1, hbl1, hb5⟩
    go_wp2_with fail
    refine (blank_calls _ _ h4).mono ?_
    rintro e w6 ⟨bl2, rfl, hl2, hbl2, hb6⟩
    go_wp2_with fail
    refine (blank_calls _ _ h5).mono ?_
    rintro e w7 ⟨bl3, rfl, hl3, hbl3, hb7⟩
    go_wp2_with fail
    refine (blank_calls _ _ h6).mono ?_
    rintro e w8 ⟨bl4, rfl, hl4, hbl4, hb8⟩
    go_wp2_with fail
    have hbB : Below w'.heap.size w' w8 := (((hbA.trans (hb5.mono hbA.size)).trans (hb6.mono (Nat.le_trans hbA.size hb5.size))).trans (hb7.mono (Nat.le_trans (Nat.le_trans hbA.size hb5.size) hb6.size))).trans (hb8.mono (Nat.le_trans (Nat.le_trans (Nat.le_trans hbA.size hb5.size) hb6.size) hb7.size))
    clear hb5 hb6 hb7 hb8
    generalize hh : (({ data := bl1.toArray } : ByteArray) ++ ({ data := ma.toArray } ++ { data := #[61] } ++ { data := qa.toArray }) ++ { data := bl2.toArray } ++ { data := #[59] } ++ { data := bl3.toArray } ++ ({ data := mb.toArray } ++ { data := #[61] } ++ { data := qb.toArray }) ++ { data := bl4.toArray }) = hd at *
    obtain ⟨I, hI0, hI, hsz⟩ := rt_head_f hh.symm hqa.out hqb.out hca.out hcb.out hbl1.out hbl2.out hbl3.out hbl4.out rest hla hlb hlqa hlqb hl1 hl2 hl3 hl4 hr2
    have HH : Hid (_ = hd) := hh
    clear hh
    refine (zz_any _ I _ _ hsz hI hI0).mono ?_
    rintro e w9 ⟨nd, pr, i, prs, ok, rfl, ⟨rfl, rfl, rfl, rfl, rfl⟩, hb9⟩
    go_wp2
    go_ret
    exact ⟨rfl, hbB.trans (hb9.mono hbB.size)⟩
  · go_wp2_with fail
    refine (blank_calls _ _ h3).mono ?_
    rintro e w5 ⟨bl1, rfl, hl1, hbl1, hb5⟩
    go_wp2_with fail
    refine (blank_calls _ _ h4).mono ?_
    rintro e w6 ⟨bl2, rfl, hl2, hbl2, hb6⟩
    go_wp2_with fail
    refine (blank_calls _ _ h5).mono ?_
    rintro e w7 ⟨bl3, rfl, hl3, hbl3, hb7⟩
    go_wp2_with fail
    refine (blank_calls _ _ h6).mono ?_
    rintro e w8 ⟨bl4, rfl, hl4, hbl4, hb8⟩
    go_wp2_with fail
    have hbB : Below w'.heap.size w' w8 := (((hbA.trans (hb5.mono hbA.size)).trans (hb6.mono (Nat.le_trans hbA.size hb5.size))).trans (hb7.mono (Nat.le_trans (Nat.le_trans hbA.size hb5.size) hb6.size))).trans (hb8.mono (Nat.le_trans (Nat.le_trans (Nat.le_trans hbA.size hb5.size) hb6.size) hb7.size))
    clear hb5 hb6 hb7 hb8
    generalize hh : (({ data := bl1.toArray } : ByteArray) ++ ({ data := mb.toArray } ++ { data := #[61] } ++ { data := qb.toArray }) ++ { data := bl2.toArray } ++ { data := #[59] } ++ { data := bl3.toArray } ++ ({ data := ma.toArray } ++ { data := #[61] } ++ { data := qa.toArray }) ++ { data := bl4.toArray }) = hd at *
    obtain ⟨I, hI0, hI, hsz⟩ := rt_head_p hh.symm hqa.out hqb.out hca.out hcb.out hbl1.out hbl2.out hbl3.out hbl4.out rest hla hlb hlqa hlqb hl1 hl2 hl3 hl4 hr2
    have HH : Hid (_ = hd) := hh
    clear hh
    refine (zz_any _ I _ _ hsz hI hI0).mono ?_
    rintro e w9 ⟨nd, pr, i, prs, ok, rfl, ⟨rfl, rfl, rfl, rfl, rfl⟩, hb9⟩
    go_wp2
    go_ret
    exact ⟨rfl, hbB.trans (hb9.mono hbB.size)⟩
end Go.Proofs.Qxb6601195aDoor

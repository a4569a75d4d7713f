/- Walks of seat b6601195aD: ZZParseElement, blankByte, zzBytes_.. -/
import Derived.Test.Qxb6601195aDoorE
import Derived.Deep.QuietTactic
import Derived.BigQuiet
namespace Go.Proofs.Qxb6601195aDoor
open Go.RowKit Go.PlainAid

set_option maxHeartbeats 400000 in
theorem zz_any (s : ByteArray) (I : PSt → Prop) (F : ByteArray → ByteArray → Nat → Nat → Bool → Prop) (w : World) (hs : s.size ≤ 16777216)
    (hstep : ∀ st, I st → st.i ≤ s.size → st.pairs ≤ st.i → Step s I F st) (h0 : I ⟨0, 0, false, false, ⟨#[]⟩, ⟨#[]⟩⟩) :
    Calls Tryd.prog 9 #[.string s, .int .i64 0] w fun e w' => ∃ node proto i pairs ok, e = .returned (.tuple #[.string node, .string proto, .int .i64 (i : Nat), .int .i64 (pairs : Nat), .bool ok]) ∧ F node proto i pairs ok ∧ Below w.heap.size w w' := by
  have HS : Hid (∀ st, I st → st.i ≤ s.size → st.pairs ≤ st.i → Step s I F st) := hstep
  have H0 : Hid (I ⟨0, 0, false, false, ⟨#[]⟩, ⟨#[]⟩⟩) := h0
  clear hstep h0
  go_enter Tryd.func9, Tryd.ntmps9
  go_wp2_with (go_at_call 12; refine (parseElement_any s I F _ hs HS.out H0.out).mono ?_; rintro e w1 ⟨node, proto, i, pairs, ok, rfl, hF, hb⟩; have HF : Hid (F node proto i pairs ok) := hF; clear hF)
  go_quiet (fail)
  go_wp2
  refine bodyPost_ret (v := .tuple #[.string node, .string proto, .int .i64 i, .int .i64 pairs, .bool ok]) ?_ rfl ⟨node, proto, i, pairs, ok, rfl, HF.out, ?_⟩
  · simp [results, Tryd.results9, go_sem]
  · exact below_drewN (hb.alloc hb.size _) nq

set_option maxHeartbeats 400000 in
theorem zzRT_any (a b c : ByteArray) (v3 v4 v5 v6 v7 v8 v9 v10 : Value) (w : World) (ha : a.size ≤ maxLen) (hb : b.size ≤ maxLen) (hc : c.size ≤ maxLen) :
    Calls Tryd.prog 5 #[.string a, .string b, .string c, v3, v4, v5, v6, v7, v8, v9, v10] w fun e w' => ∃ r : Bool, e = .returned (.bool r) ∧ w' = w := by
  unfold maxLen at ha hb hc
  go_enter Tryd.func5, Tryd.ntmps5
  go_wp2
  all_goals
    go_ret
    exact ⟨_, rfl, rfl⟩

set_option maxHeartbeats 400000 in
theorem zzRR_any (a b c : ByteArray) (v3 v4 v5 v6 : Value) (w : World) (ha : a.size ≤ maxLen) (hb : b.size ≤ maxLen) (hc : c.size ≤ maxLen) :
    Calls Tryd.prog 10 #[.string a, .string b, .string c, v3, v4, v5, v6] w fun e w' => ∃ r : Bool, e = .returned (.bool r) ∧ w' = w := by
  unfold maxLen at ha hb hc
  go_enter Tryd.func10, Tryd.ntmps10
  go_wp2
  all_goals
    go_ret
    exact ⟨_, rfl, rfl⟩

set_option maxHeartbeats 400000 in
theorem blankByte_any (c : Int) (w : World) :
    Calls Tryd.prog 11 #[.int .u8 c] w fun e w' => e = .returned (.bool (blB c)) ∧ w' = w := by
  by_cases h1 : (c == 32) = true
  · go_enter Tryd.func11, Tryd.ntmps11
    go_wp2
    go_ret
    exact ⟨by simp [blB, h1], rfl⟩
  · have h1' : (c == 32) = false := by simpa using h1
    go_enter Tryd.func11, Tryd.ntmps11
    go_wp2
    go_ret
    exact ⟨by simp [blB, h1'], rfl⟩
end Go.Proofs.Qxb6601195aDoor

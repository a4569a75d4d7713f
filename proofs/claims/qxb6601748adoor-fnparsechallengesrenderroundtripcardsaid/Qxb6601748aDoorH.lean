/- Seat b6601748aD: appendQuoted. -/
import Derived.Test.Qxb6601748aDoorG
namespace Go.Proofs.Qxb6601748aDoor
open Go.RowKit Go.PlainAid

theorem escs_snoc (s : ByteArray) (k : Nat) (h : k < s.size) : escs (s.data.toList.take (k + 1)) = escs (s.data.toList.take k) ++ (if s[k] == 34 || s[k] == 92 then [92, s[k]] else [s[k]]) := by
  rw [List.take_succ_eq_append_getElem (by simpa using h)]
  simp only [escs, List.flatMap_append, List.flatMap_cons, List.flatMap_nil, List.append_nil]
  rfl
theorem escs_le (l : List UInt8) : (escs l).length ≤ 2 * l.length := by
  induction l with
  | nil => simp [escs]
  | cons c l ih =>
    rw [escs_cons, List.length_append, List.length_cons]
    split <;> simp only [List.length_cons, List.length_nil] <;> omega
theorem row_snoc {B : Nat} {w : World} {v : Value} {l : List UInt8} {n : Nat} (c : UInt8) (hn : n = l.length + 1) (h : w.ownsRow B 5 1 v n (Lib.byteCells l ++ [.int .u8 (c.toNat : Int)])) :
    w.ownsRow B 5 1 v (l ++ [c]).length (Lib.byteCells (l ++ [c])) := by
  subst hn
  simpa [Lib.byteCells] using h
theorem one_ok (x : Int) : ∀ u ∈ [Value.int .u8 x], u.oneCell' = true := by
  intro u hu; simp at hu; subst hu; rfl
theorem own_ge {B n : Nat} {e : TypeId} {sz : Nat} {w : World} {v : Value} {xs : List Value} (h : w.ownsRow B e sz v n xs) : ∀ k, v.ownBlock = some k → B ≤ k := by
  intro k hk
  rcases h.2 with ⟨rfl, _⟩ | ⟨g, cap, cur, rfl, hb, _⟩
  · simp [Value.ownBlock] at hk
  · simp [Value.ownBlock] at hk; omega
/-- The whole of one append of one byte. -/
theorem step_append {B n : Nat} {w0 w w' : World} {v v' : Value} {l : List UInt8} {o : Obj} (c : UInt8) (hb : Below B w0 w) (hB : B ≤ w0.heap.size) (hn : n = l.length + 1)
    (hown : w.ownsRow B 5 1 v l.length (Lib.byteCells l)) (hown' : w'.ownsRow B 5 1 v' n (Lib.byteCells l ++ [.int .u8 (c.toNat : Int)])) (hg : (w.alloc o).grownBy w' v.ownBlock) :
    w'.ownsRow B 5 1 v' (l ++ [c]).length (Lib.byteCells (l ++ [c])) ∧ Below B w0 w' :=
  have h1 := hb.size
  ⟨row_snoc c hn hown', (hb.alloc (by omega) o).grown hg (by simp; omega) (own_ge hown)⟩

/-- A quoted value's text. -/
def qt (s : ByteArray) : List UInt8 := 34 :: (escs s.data.toList ++ [34])

set_option maxHeartbeats 1600000 in
set_option maxRecDepth 100000 in
theorem appendQ_any (B : Nat) (dv : Value) (l : List UInt8) (s : ByteArray) (w : World) (hown0 : w.ownsRow B 5 1 dv l.length (Lib.byteCells l)) (hB : B ≤ w.heap.size) (hl : l.length ≤ 1000000) (hs : s.size ≤ 65536) :
    Calls Tryd.prog 17 #[dv, .string s] w fun e w' => ∃ v', e = .returned v' ∧ Hid (w'.ownsRow B 5 1 v' (l ++ qt s).length (Lib.byteCells (l ++ qt s))) ∧ Below B w w' := by
  obtain ⟨i0, hi, hz0, hz1, hz2⟩ := info_parts Tryd.info5
  go_enter Tryd.func17, Tryd.ntmps17
  go_wp2_with (first
    | (at_builtin; refine wpList_append_own _ rfl (.tmp 7) (.tmp 8) 46 rfl B 5 i0 (.int .u8 0) 1 1 Tryd.underlying46 hi hz0 hz1 hz2 rfl (by decide) _ _ _ rfl (hown0.alloc _) ⟨w.heap.size, 0, none⟩ 1 1 [.int .u8 34] rfl rfl (cell_one_new _ _ _) (one_ok _) (by unfold maxLen; omega) (by omega) (by simp; omega) ?_; intro v2 w2 hown2 hg2 hnn; clear hnn))
  have R2 := step_append 34 (Below.refl B w) hB rfl hown0 hown2 hg2
  clear hown2 hg2
  go_loopw [0, 5] (fun v i wr => ∃ k : Nat, k ≤ s.size ∧ i = .int .i64 k ∧ wr.ownsRow B 5 1 v (l ++ 34 :: escs (s.data.toList.take k)).length (Lib.byteCells (l ++ 34 :: escs (s.data.toList.take k))) ∧ Below B w wr)
    (fun _ i _ => s.size - (intOf i).toNat)
  case atStart => exact ⟨0, Nat.zero_le _, rfl, R2.1, R2.2⟩
  case round =>
    clear R2
    obtain ⟨k, hk, rfl, hown, hbel⟩ := hrel
    have hle := escs_le (s.data.toList.take k)
    have htl : (s.data.toList.take k).length ≤ k := List.length_take_le _ _
    have hsz := hbel.size
    have hlen : (l ++ 34 :: escs (s.data.toList.take k)).length ≤ 1300000 := by simp only [List.length_append, List.length_cons]; omega
    by_cases hlt : k < s.size
    · have HSN : Hid (l ++ 34 :: escs (s.data.toList.take (k + 1)) = (l ++ 34 :: escs (s.data.toList.take k)) ++ (if s[k] == 34 || s[k] == 92 then [92, s[k]] else [s[k]])) := by
        show _ = _
        rw [escs_snoc s k hlt]; simp
      clear hle htl
      generalize l ++ 34 :: escs (s.data.toList.take k) = m at *
      by_cases hq : (s[k] == 34 || s[k] == 92) = true
      · have hq' : ((s[k].toNat : Int) == 34) = true ∨ (((s[k].toNat : Int) == 34) = false ∧ ((s[k].toNat : Int) == 92) = true) := by
          rw [is34, is92]
          cases h1 : (s[k] == 34) <;> cases h2 : (s[k] == 92) <;> simp_all
        have R : Hid (l ++ 34 :: escs (s.data.toList.take (k + 1)) = (m ++ [92]) ++ [s[k]]) := by
          show _ = _
          rw [HSN.out, if_pos hq]; simp
        clear HSN hq
        rcases hq' with h1 | ⟨h1, h2⟩
        all_goals
          go_wp2_with (first
            | (at_builtin; refine wpList_append_own _ rfl (.tmp 25) (.tmp 26) 46 rfl B 5 i0 (.int .u8 0) 1 1 Tryd.underlying46 hi hz0 hz1 hz2 rfl (by decide) _ _ _ rfl (hown.alloc _) ⟨wr.heap.size, 0, none⟩ 1 1 [.int .u8 92] rfl rfl (cell_one_new _ _ _) (one_ok _) (by unfold maxLen; omega) (by omega) (by simp; omega) ?_; intro v2 w2 hown2 hg2 hnn; clear hnn; have R2 := step_append 92 hbel hB rfl hown hown2 hg2; have hsz2 := R2.2.size; clear hown2 hg2)
            | (at_builtin; refine wpList_append_own _ rfl (.tmp 28) (.tmp 30) 46 rfl B 5 i0 (.int .u8 0) 1 1 Tryd.underlying46 hi hz0 hz1 hz2 rfl (by decide) _ _ _ rfl (R2.1.alloc _) ⟨w2.heap.size, 0, none⟩ 1 1 [.int .u8 (s[k].toNat : Int)] rfl rfl (cell_one_new _ _ _) (one_ok _) (by unfold maxLen; simp; omega) (by simp; omega) (by simp; omega) ?_; intro v3 w3 hown3 hg3 hnn; clear hnn; have R3 := step_append s[k] R2.2 hB rfl R2.1 hown3 hg3; clear hown3 hg3))
          go_roundw
          case rel => exact ⟨k + 1, by omega, by go_num, by rw [R.out]; exact R3.1, R3.2⟩
          case measure => simp [intOf]; omega
      · have hq' : ((s[k].toNat : Int) == 34) = false ∧ ((s[k].toNat : Int) == 92) = false := by
          rw [is34, is92]
          cases h1 : (s[k] == 34) <;> cases h2 : (s[k] == 92) <;> simp_all
        have R : Hid (l ++ 34 :: escs (s.data.toList.take (k + 1)) = m ++ [s[k]]) := by
          show _ = _
          rw [HSN.out, if_neg hq]
        clear HSN hq
        obtain ⟨h1, h2⟩ := hq'
        go_wp2_with (first
            | (at_builtin; refine wpList_append_own _ rfl (.tmp 28) (.tmp 30) 46 rfl B 5 i0 (.int .u8 0) 1 1 Tryd.underlying46 hi hz0 hz1 hz2 rfl (by decide) _ _ _ rfl (hown.alloc _) ⟨wr.heap.size, 0, none⟩ 1 1 [.int .u8 (s[k].toNat : Int)] rfl rfl (cell_one_new _ _ _) (one_ok _) (by unfold maxLen; omega) (by omega) (by simp; omega) ?_; intro v3 w3 hown3 hg3 hnn; clear hnn; have R3 := step_append s[k] hbel hB rfl hown hown3 hg3; clear hown3 hg3))
        go_roundw
        case rel => exact ⟨k + 1, by omega, by go_num, by rw [R.out]; exact R3.1, R3.2⟩
        case measure => simp [intOf]; omega
    · rw [List.take_of_length_le (by simp; omega)] at hown hlen
      have HQ : Hid (l ++ qt s = (l ++ 34 :: escs s.data.toList) ++ [34]) := by
        show _ = _
        simp [qt]
      clear htl hle
      generalize l ++ 34 :: escs s.data.toList = m at *
      go_wp2_with (first
            | (at_builtin; refine wpList_append_own _ rfl (.tmp 32) (.tmp 33) 46 rfl B 5 i0 (.int .u8 0) 1 1 Tryd.underlying46 hi hz0 hz1 hz2 rfl (by decide) _ _ _ rfl (hown.alloc _) ⟨wr.heap.size, 0, none⟩ 1 1 [.int .u8 34] rfl rfl (cell_one_new _ _ _) (one_ok _) (by unfold maxLen; omega) (by omega) (by simp; omega) ?_; intro v3 w3 hown3 hg3 hnn; clear hnn; have R3 := step_append 34 hbel hB rfl hown hown3 hg3; clear hown3 hg3))
      go_ret
      exact ⟨_, rfl, by rw [HQ.out]; exact R3.1, R3.2⟩
end Go.Proofs.Qxb6601748aDoor

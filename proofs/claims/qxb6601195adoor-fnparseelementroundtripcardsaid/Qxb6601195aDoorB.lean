/- Walks of seat b6601195aD: quoteValue, caseWord, blankRun. -/
import Derived.Test.Qxb6601195aDoorA
import Derived.Test.Qxb6601195aDoorShelf
import Derived.Laws.IdiomStrings
import Derived.Laws.OwnMore
namespace Go.Proofs.Qxb6601195aDoor
open Go.RowKit Go.PlainAid

theorem Tryd.info5 : (Tryd.prog.info? 5).map (fun i => (i.zero, i.size, i.bytes)) = some (some (.int .u8 0), 1, 1) := by kernel_rfl

/-- 'string(buf)' of a row of the call's own. -/
theorem conv_back {B : Nat} {w : World} {v : Value} {l : List UInt8} (h : w.ownsRow B 5 1 v l.length (Lib.byteCells l)) :
    (convert 30 9 v).run Tryd.prog w = .ok (.string ⟨l.toArray⟩) w := by
  rcases h.2 with ⟨rfl, h0⟩ | ⟨g, cap, cur, rfl, hb, hg, hn, hm, hsz, htk⟩
  · obtain rfl : l = [] := List.eq_nil_of_length_eq_zero h0
    kernel_rfl
  · refine run_convert_bytes_back w 30 9 5 ⟨g, 0, none⟩ cap l Tryd.underlying30 Tryd.underlying5 Tryd.underlying9 ?_
    intro j hj
    have := h.cellAt j (by omega)
    have e : (⟨g, 0, none⟩ : Addr).add j = ⟨g, j, none⟩ := by unfold Addr.add; split <;> simp_all
    rw [e]
    simpa [Lib.byteCells, hj] using this

def escs (all : Bool) (l : List UInt8) : List UInt8 := l.flatMap fun c => if all || c == 34 || c == 92 then [92, c] else [c]

theorem is34 (c : UInt8) : ((c.toNat : Int) == 34) = (c == 34) := by
  rw [Bool.eq_iff_iff]; simp only [beq_iff_eq, ← UInt8.toNat_inj]; show (c.toNat : Int) = 34 ↔ c.toNat = 34; omega
theorem is92 (c : UInt8) : ((c.toNat : Int) == 92) = (c == 92) := by
  rw [Bool.eq_iff_iff]; simp only [beq_iff_eq, ← UInt8.toNat_inj]; show (c.toNat : Int) = 92 ↔ c.toNat = 92; omega

theorem escs_cons (all : Bool) (c : UInt8) (l : List UInt8) : escs all (c :: l) = (if all || c == 34 || c == 92 then [92, c] else [c]) ++ escs all l := rfl
theorem escs_le (all : Bool) (l : List UInt8) : (escs all l).length ≤ 2 * l.length := by
  induction l with
  | nil => simp [escs]
  | cons c l ih =>
    rw [escs_cons, List.length_append, List.length_cons]
    split <;> simp only [List.length_cons, List.length_nil] <;> omega

theorem escs_snoc (all : Bool) (s : ByteArray) (k : Nat) (h : k < s.size) : escs all (s.data.toList.take (k + 1)) = escs all (s.data.toList.take k) ++ (if all || s[k] == 34 || s[k] == 92 then [92, s[k]] else [s[k]]) := by
  rw [List.take_succ_eq_append_getElem (by simpa using h)]
  simp only [escs, List.flatMap_append, List.flatMap_cons, List.flatMap_nil, List.append_nil]
  rfl

/-- What an append of one byte does to a row of the call's own. -/
theorem row_snoc {B : Nat} {w : World} {v : Value} {l : List UInt8} {n : Nat} (c : UInt8) (hn : n = l.length + 1) (h : w.ownsRow B 5 1 v n (Lib.byteCells l ++ [.int .u8 (c.toNat : Int)])) :
    w.ownsRow B 5 1 v (l ++ [c]).length (Lib.byteCells (l ++ [c])) := by
  subst hn
  simpa [Lib.byteCells] using h

theorem one_ok (x : Int) : ∀ u ∈ [Value.int .u8 x], u.oneCell' = true := by
  intro u hu; simp at hu; subst hu; rfl

theorem own_ge {B n : Nat} {e : TypeId} {sz : Nat} {w : World} {v : Value} {xs : List Value} (h : w.ownsRow B e sz v n xs) : ∀ k, v.ownBlock = some k → B ≤ k := by
  intro k hk
  rcases h.2 with ⟨rfl, _⟩ | ⟨g, cap, cur, rfl, hb, _⟩
  · simp [Value.ownBlock] at hk
  · simp [Value.ownBlock] at hk; omega

/-- The whole of one append of one byte. -/
theorem step_append {B n : Nat} {w0 w w' : World} {v v' : Value} {l : List UInt8} {o : Obj} (c : UInt8) (hb : Below B w0 w) (hB : B ≤ w0.heap.size) (hn : n = l.length + 1)
    (hown : w.ownsRow B 5 1 v l.length (Lib.byteCells l)) (hown' : w'.ownsRow B 5 1 v' n (Lib.byteCells l ++ [.int .u8 (c.toNat : Int)])) (hg : (w.alloc o).grownBy w' v.ownBlock) :
    w'.ownsRow B 5 1 v' (l ++ [c]).length (Lib.byteCells (l ++ [c])) ∧ Below B w0 w' :=
  have h1 := hb.size
  ⟨row_snoc c hn hown', (hb.alloc (by omega) o).grown hg (by simp; omega) (own_ge hown)⟩

set_option maxHeartbeats 400000 in
theorem quoteValue_any (s : ByteArray) (all : Bool) (w : World) (hs : s.size ≤ 262144) :
    Calls Tryd.prog 7 #[.string s, .bool all] w fun e w' => e = .returned (.string ⟨(34 :: (escs all s.data.toList ++ [34])).toArray⟩) ∧ Below w.heap.size w w' := by
  obtain ⟨i0, hi, hz0, hz1, hz2⟩ := info_parts Tryd.info5
  go_enter Tryd.func7, Tryd.ntmps7
  go_wp2_with (first
    | (at_make; refine wpList_make_own _ rfl _ _ 30 rfl w.heap.size 5 i0 (.int .u8 0) 1 Tryd.underlying30 hi hz0 hz1 _ _ _ (2 * s.size + 2) rfl rfl (by omega) (by rw [hz2]; omega) (by unfold maxLen; omega) (Nat.le_refl _) ?_; intro w1 hown1 hg1)
    | (at_builtin; refine wpList_append_own _ rfl (.tmp 13) (.tmp 14) 30 rfl w.heap.size 5 i0 (.int .u8 0) 1 1 Tryd.underlying30 hi hz0 hz1 hz2 rfl (by decide) _ _ _ rfl (hown1.alloc _) ⟨w1.heap.size, 0, none⟩ 1 1 [.int .u8 34] rfl rfl (cell_one_new _ _ _) (one_ok _) (by unfold maxLen; omega) (by omega) (by have := hg1.size; simp; omega) ?_; intro v2 w2 hown2 hg2 hnn; clear hnn))
  have hb1 : Below w.heap.size w w1 := (Below.refl _ _).grown hg1 (Nat.le_refl _) (by intro k hk; cases hk)
  have R2 := step_append (l := []) 34 hb1 (Nat.le_refl _) rfl hown1 hown2 hg2
  clear hown1 hown2 hg1 hg2 hb1
  go_loopw [5, 6] (fun v i wr => ∃ k : Nat, k ≤ s.size ∧ i = .int .i64 k ∧ wr.ownsRow w.heap.size 5 1 v (34 :: escs all (s.data.toList.take k)).length (Lib.byteCells (34 :: escs all (s.data.toList.take k))) ∧ Below w.heap.size w wr)
    (fun _ i _ => s.size - (intOf i).toNat)
  case atStart => exact ⟨0, Nat.zero_le _, rfl, R2.1, R2.2⟩
  case round =>
    clear R2
    obtain ⟨k, hk, rfl, hown, hbel⟩ := hrel
    have hle := escs_le all (s.data.toList.take k)
    have htl : (s.data.toList.take k).length ≤ k := List.length_take_le _ _
    have hsz := hbel.size
    by_cases hlt : k < s.size
    · have HSN : Hid (escs all (s.data.toList.take (k + 1)) = escs all (s.data.toList.take k) ++ (if all || s[k] == 34 || s[k] == 92 then [92, s[k]] else [s[k]])) := escs_snoc all s k hlt
      generalize escs all (s.data.toList.take k) = l at *
      by_cases hq : (all || s[k] == 34 || s[k] == 92) = true
      · have hq' : all = true ∨ (all = false ∧ ((s[k].toNat : Int) == 34) = true) ∨ (all = false ∧ ((s[k].toNat : Int) == 34) = false ∧ ((s[k].toNat : Int) == 92) = true) := by
          rw [is34, is92]
          cases all <;> cases h1 : (s[k] == 34) <;> cases h2 : (s[k] == 92) <;> simp_all
        have R : Hid (escs all (s.data.toList.take (k + 1)) = (l ++ [92]) ++ [s[k]]) := by
          show _ = _
          rw [HSN.out, if_pos hq]; simp
        clear HSN hq
        rcases hq' with rfl | ⟨rfl, h1⟩ | ⟨rfl, h1, h2⟩
        all_goals
          go_wp2_with (first
            | (at_builtin; refine wpList_append_own _ rfl (.tmp 34) (.tmp 35) 30 rfl w.heap.size 5 i0 (.int .u8 0) 1 1 Tryd.underlying30 hi hz0 hz1 hz2 rfl (by decide) _ _ _ rfl (hown.alloc _) ⟨wr.heap.size, 0, none⟩ 1 1 [.int .u8 92] rfl rfl (cell_one_new _ _ _) (one_ok _) (by unfold maxLen; simp; omega) (by simp; omega) (by simp; omega) ?_; intro v2 w2 hown2 hg2 hnn; clear hnn; have R2 := step_append 92 hbel (Nat.le_refl _) rfl hown hown2 hg2; have hsz2 := R2.2.size; clear hown2 hg2)
            | (at_builtin; refine wpList_append_own _ rfl (.tmp 37) (.tmp 39) 30 rfl w.heap.size 5 i0 (.int .u8 0) 1 1 Tryd.underlying30 hi hz0 hz1 hz2 rfl (by decide) _ _ _ rfl (R2.1.alloc _) ⟨w2.heap.size, 0, none⟩ 1 1 [.int .u8 (s[k].toNat : Int)] rfl rfl (cell_one_new _ _ _) (one_ok _) (by unfold maxLen; simp; omega) (by simp; omega) (by simp; omega) ?_; intro v3 w3 hown3 hg3 hnn; clear hnn; have R3 := step_append s[k] R2.2 (Nat.le_refl _) rfl R2.1 hown3 hg3; clear hown3 hg3))
          go_roundw
          case rel => exact ⟨k + 1, by omega, by go_num, by rw [R.out]; exact R3.1, R3.2⟩
          case measure => simp [intOf]; omega
      · have hq' : all = false ∧ ((s[k].toNat : Int) == 34) = false ∧ ((s[k].toNat : Int) == 92) = false := by
          rw [is34, is92]
          cases all <;> cases h1 : (s[k] == 34) <;> cases h2 : (s[k] == 92) <;> simp_all
        have R : Hid (escs all (s.data.toList.take (k + 1)) = l ++ [s[k]]) := by
          show _ = _
          rw [HSN.out, if_neg hq]
        clear HSN hq
        obtain ⟨rfl, h1, h2⟩ := hq'
        go_wp2_with (first
            | (at_builtin; refine wpList_append_own _ rfl (.tmp 37) (.tmp 39) 30 rfl w.heap.size 5 i0 (.int .u8 0) 1 1 Tryd.underlying30 hi hz0 hz1 hz2 rfl (by decide) _ _ _ rfl (hown.alloc _) ⟨wr.heap.size, 0, none⟩ 1 1 [.int .u8 (s[k].toNat : Int)] rfl rfl (cell_one_new _ _ _) (one_ok _) (by unfold maxLen; simp; omega) (by simp; omega) (by simp; omega) ?_; intro v3 w3 hown3 hg3 hnn; clear hnn; have R3 := step_append s[k] hbel (Nat.le_refl _) rfl hown hown3 hg3; clear hown3 hg3))
        go_roundw
        case rel => exact ⟨k + 1, by omega, by go_num, by rw [R.out]; exact R3.1, R3.2⟩
        case measure => simp [intOf]; omega
    · rw [List.take_of_length_le (by simp; omega)] at hown hle
      generalize hl : escs all s.data.toList = l at *
      have HL : Hid (escs all s.data.toList = l) := hl
      have hle2 : l.length ≤ 2 * s.size := by simpa using hle
      clear hl htl hle
      go_wp2_with (first
            | (at_builtin; refine wpList_append_own _ rfl (.tmp 41) (.tmp 42) 30 rfl w.heap.size 5 i0 (.int .u8 0) 1 1 Tryd.underlying30 hi hz0 hz1 hz2 rfl (by decide) _ _ _ rfl (hown.alloc _) ⟨wr.heap.size, 0, none⟩ 1 1 [.int .u8 34] rfl rfl (cell_one_new _ _ _) (one_ok _) (by unfold maxLen; simp; omega) (by simp; omega) (by simp; omega) ?_; intro v3 w3 hown3 hg3 hnn; clear hnn; have R3 := step_append 34 hbel (Nat.le_refl _) rfl hown hown3 hg3; have hcv := conv_back R3.1; clear hown3 hg3))
      go_ret
      exact ⟨by rw [HL.out]; rfl, R3.2⟩

end Go.Proofs.Qxb6601195aDoor

/- Walks of seat b6601195aD: caseWord, blankRun. -/
import Derived.Test.Qxb6601195aDoorB
namespace Go.Proofs.Qxb6601195aDoor
open Go.RowKit Go.PlainAid

/-- A word of letters, each as it stands in lower case or 32 less. -/
def CaseOf (l m : List UInt8) : Prop := m.length = l.length ∧ ∀ (k : Nat) (c : UInt8), l[k]? = some c → m[k]? = some c ∨ (97 ≤ c.toNat ∧ c.toNat ≤ 122 ∧ m[k]? = some (c - 32))

theorem CaseOf.snoc {l m : List UInt8} (h : CaseOf l m) (c d : UInt8) (hd : d = c ∨ (97 ≤ c.toNat ∧ c.toNat ≤ 122 ∧ d = c - 32)) : CaseOf (l ++ [c]) (m ++ [d]) := by
  refine ⟨by simp [h.1], fun k x hx => ?_⟩
  rcases Nat.lt_or_ge k l.length with hk | hk
  · rw [List.getElem?_append_left hk] at hx
    rw [List.getElem?_append_left (by rw [h.1]; exact hk)]
    exact h.2 k x hx
  · rw [List.getElem?_append_right hk] at hx
    rw [List.getElem?_append_right (by rw [h.1]; exact hk), h.1]
    obtain ⟨hkk, rfl⟩ : k - l.length = 0 ∧ c = x := by
      cases hkk : k - l.length with
      | zero => rw [hkk] at hx; simpa using hx
      | succ n => rw [hkk] at hx; simp at hx
    rw [hkk]
    simpa using hd

theorem take_snoc (s : ByteArray) (k : Nat) (h : k < s.size) : s.data.toList.take (k + 1) = s.data.toList.take k ++ [s[k]] := by
  rw [List.take_succ_eq_append_getElem (by simpa using h)]; rfl
theorem sub32 (c : UInt8) (h : (97 : Int) ≤ c.toNat) : ((c - 32).toNat : Int) = (c.toNat : Int) - 32 := by
  have := c.toNat_lt
  rw [UInt8.toNat_sub_of_le _ _ (by rw [UInt8.le_iff_toNat_le]; show 32 ≤ c.toNat; omega)]
  show ((c.toNat - 32 : Nat) : Int) = _
  omega

set_option maxHeartbeats 400000 in
theorem caseWord_any (s : ByteArray) (mask : Int) (w : World) (hs : s.size ≤ 262144) (_hm0 : 0 ≤ mask) (_hm1 : mask ≤ 255) :
    Calls Tryd.prog 6 #[.string s, .int .u8 mask] w fun e w' => ∃ m : List UInt8, e = .returned (.string ⟨m.toArray⟩) ∧ CaseOf s.data.toList m ∧ Below w.heap.size w w' := by
  obtain ⟨i0, hi, hz0, hz1, hz2⟩ := info_parts Tryd.info5
  go_enter Tryd.func6, Tryd.ntmps6
  go_wp2_with (first
    | (at_make; refine wpList_make_own _ rfl _ _ 30 rfl w.heap.size 5 i0 (.int .u8 0) 1 Tryd.underlying30 hi hz0 hz1 _ _ _ s.size rfl rfl (by omega) (by rw [hz2]; omega) (by unfold maxLen; omega) (Nat.le_refl _) ?_; intro w1 hown1 hg1))
  have hb1 : Below w.heap.size w w1 := (Below.refl _ _).grown hg1 (Nat.le_refl _) (by intro k hk; cases hk)
  clear hg1
  go_loopw [5, 6, 7] (fun v i _ wr => ∃ (k : Nat) (m : List UInt8), k ≤ s.size ∧ i = .int .i64 k ∧ CaseOf (s.data.toList.take k) m ∧ wr.ownsRow w.heap.size 5 1 v m.length (Lib.byteCells m) ∧ Below w.heap.size w wr)
    (fun _ i _ _ => s.size - (intOf i).toNat)
  case atStart => exact ⟨0, [], Nat.zero_le _, rfl, ⟨rfl, by intro k c h; simp at h⟩, hown1, hb1⟩
  case round =>
    clear hown1 hb1
    obtain ⟨k, m, hk, rfl, hcase, hown, hbel⟩ := hrel
    have hml : m.length ≤ k := by rw [hcase.1]; exact List.length_take_le _ _
    have hsz := hbel.size
    by_cases hlt : k < s.size
    · have HC : Hid (CaseOf (s.data.toList.take k) m) := hcase
      clear hcase
      go_wp2_with (first
            | (at_builtin; refine wpList_append_own _ rfl (.tmp 40) (.tmp 42) 30 rfl w.heap.size 5 i0 (.int .u8 0) 1 1 Tryd.underlying30 hi hz0 hz1 hz2 rfl (by decide) _ _ _ rfl (hown.alloc _) ⟨wr.heap.size, 0, none⟩ 1 1 [.int .u8 _] rfl rfl (cell_one_new _ _ _) (one_ok _) (by unfold maxLen; omega) (by omega) (by simp; omega) ?_; intro v3 w3 hown3 hg3 hnn; clear hnn))
      all_goals first
        | (have h97 : (97 : Int) ≤ s[k].toNat := by assumption
           have h122 : (s[k].toNat : Int) ≤ 122 := by assumption
           have R3 := step_append (s[k] - 32) hbel (Nat.le_refl _) rfl hown (by rw [sub32 _ h97]; exact hown3) hg3
           go_roundw
           case rel => exact ⟨k + 1, m ++ [s[k] - 32], by omega, by go_num, by rw [take_snoc s k hlt]; exact HC.out.snoc _ _ (Or.inr ⟨by omega, by omega, rfl⟩), R3.1, R3.2⟩
           case measure => simp [intOf]; omega)
        | (have R3 := step_append s[k] hbel (Nat.le_refl _) rfl hown hown3 hg3
           go_roundw
           case rel => exact ⟨k + 1, m ++ [s[k]], by omega, by go_num, by rw [take_snoc s k hlt]; exact HC.out.snoc _ _ (Or.inl rfl), R3.1, R3.2⟩
           case measure => simp [intOf]; omega)
    · rw [List.take_of_length_le (by simp; omega)] at hcase
      have hcv := conv_back hown
      go_wp2
      go_ret
      exact ⟨m, rfl, hcase, hbel⟩

set_option maxHeartbeats 400000 in
theorem blankRun_any (pat : Int) (w : World) (hm0 : 0 ≤ pat) (hm1 : pat ≤ 255) :
    Calls Tryd.prog 8 #[.int .u8 pat] w fun e w' => ∃ m : List UInt8, e = .returned (.string ⟨m.toArray⟩) ∧ m.length ≤ 3 ∧ (∀ c ∈ m, c = 32 ∨ c = 9) ∧ Below w.heap.size w w' := by
  obtain ⟨i0, hi, hz0, hz1, hz2⟩ := info_parts Tryd.info5
  go_enter Tryd.func8, Tryd.ntmps8
  go_wp2_with (first
    | (at_make; refine wpList_make_own _ rfl _ _ 30 rfl w.heap.size 5 i0 (.int .u8 0) 1 Tryd.underlying30 hi hz0 hz1 _ _ _ 3 rfl rfl (by omega) (by rw [hz2]; omega) (by unfold maxLen; omega) (Nat.le_refl _) ?_; intro w1 hown1 hg1))
  have hb1 : Below w.heap.size w w1 := (Below.refl _ _).grown hg1 (Nat.le_refl _) (by intro k hk; cases hk)
  clear hg1
  have hp : pat / 64 ≤ 3 := by omega
  have hp0 : 0 ≤ pat / 64 := by omega
  generalize pat / 64 = n at *
  go_loopw [4, 5] (fun v i wr => ∃ (k : Nat) (m : List UInt8), (k : Int) ≤ n ∧ i = .int .i64 k ∧ m.length = k ∧ (∀ c ∈ m, c = 32 ∨ c = 9) ∧ wr.ownsRow w.heap.size 5 1 v m.length (Lib.byteCells m) ∧ Below w.heap.size w wr)
    (fun _ i _ => 3 - (intOf i).toNat)
  case atStart => exact ⟨0, [], hp0, rfl, rfl, (fun c h => by simp at h), hown1, hb1⟩
  case round =>
    clear hown1 hb1
    obtain ⟨k, m, hk, rfl, hml, hall, hown, hbel⟩ := hrel
    have HALL : Hid (∀ c ∈ m, c = 32 ∨ c = 9) := hall
    have HML : Hid (m.length = k) := hml
    have hml2 : m.length ≤ 3 := by omega
    clear hall hml
    have hsz := hbel.size
    by_cases hlt : (k : Int) < n
    · go_wp2_with (first
            | (at_builtin; refine wpList_append_own _ rfl (.tmp 21) (.tmp 22) 30 rfl w.heap.size 5 i0 (.int .u8 0) 1 1 Tryd.underlying30 hi hz0 hz1 hz2 rfl (by decide) _ _ _ rfl (hown.alloc _) ⟨wr.heap.size, 0, none⟩ 1 1 [.int .u8 9] rfl rfl (cell_one_new _ _ _) (one_ok _) (by unfold maxLen; omega) (by omega) (by simp; omega) ?_; intro v3 w3 hown3 hg3 hnn; clear hnn; have R3 := step_append 9 hbel (Nat.le_refl _) rfl hown hown3 hg3; have HA : Hid (∀ c ∈ m ++ [9], c = 32 ∨ c = 9) := (fun c hc => by rcases List.mem_append.1 hc with h | h; exact HALL.out c h; simp at h; exact Or.inr h); clear hown3 hg3)
            | (at_builtin; refine wpList_append_own _ rfl (.tmp 24) (.tmp 25) 30 rfl w.heap.size 5 i0 (.int .u8 0) 1 1 Tryd.underlying30 hi hz0 hz1 hz2 rfl (by decide) _ _ _ rfl (hown.alloc _) ⟨wr.heap.size, 0, none⟩ 1 1 [.int .u8 32] rfl rfl (cell_one_new _ _ _) (one_ok _) (by unfold maxLen; omega) (by omega) (by simp; omega) ?_; intro v3 w3 hown3 hg3 hnn; clear hnn; have R3 := step_append 32 hbel (Nat.le_refl _) rfl hown hown3 hg3; have HA : Hid (∀ c ∈ m ++ [32], c = 32 ∨ c = 9) := (fun c hc => by rcases List.mem_append.1 hc with h | h; exact HALL.out c h; simp at h; exact Or.inl h); clear hown3 hg3))
      all_goals
        go_roundw
        case rel => exact ⟨k + 1, _, by omega, by go_num, by simp [HML.out], HA.out, R3.1, R3.2⟩
        case measure => simp [intOf]; omega
    · have hcv := conv_back hown
      go_wp2
      go_ret
      exact ⟨m, rfl, hml2, HALL.out, hbel⟩
end Go.Proofs.Qxb6601195aDoor

/- Seat b6601214aD: zzSortedBytewise, zzHasStar, zzSomeStar, zzEverySomeStar. -/
import Derived.Test.Qxb6601214aDoorB
import Derived.Deep.QuietTactic
import Derived.BigQuiet
import Derived.Lib.IndexLaws
namespace Go.Proofs.Qxb6601214aDoor
open Go.RowKit Go.PlainAid

/-- Go's '>' on strings. -/
def gtB (a b : ByteArray) : Bool := !Op.bytesLess a.toList b.toList && !(a.toList == b.toList)
def SortedS (ss : List ByteArray) : Prop := ∀ i, i + 1 < ss.length → gtB (sg ss i) (sg ss (i + 1)) = false

set_option maxHeartbeats 400000 in
theorem zzSorted_any (v : Value) (ss : List ByteArray) (w : World) (hS : Strs w v ss) :
    Calls Tryd.prog 8 #[v] w fun e w' => (e = .returned (.bool false) ∨ (e = .returned (.bool true) ∧ Hid (SortedS ss))) ∧ Below w.heap.size w w' := by
  obtain ⟨ao, cap, rfl, hn, HC⟩ := hS.sized
  clear hS
  generalize hlen : ss.length = n at *
  have HLen : Hid (ss.length = n) := hlen
  clear hlen
  go_enter Tryd.func8, Tryd.ntmps8
  go_wp2
  go_loopw [3] (fun i wr => ∃ (k : Nat), (k ≤ n ∨ k = 1) ∧ 1 ≤ k ∧ i = .int .i64 k ∧ Hid (∀ j, j + 1 < k → gtB (sg ss j) (sg ss (j + 1)) = false) ∧ Below w.heap.size w wr) (fun i _ => n - (intOf i).toNat)
  case atStart => exact ⟨1, Or.inr rfl, Nat.le_refl _, rfl, (fun j hj => by omega), Below.refl _ _⟩
  case round =>
    obtain ⟨k, hk, hk1, rfl, hall, hbel⟩ := hrel
    by_cases hlt : k < n
    · obtain ⟨b, off, hao, hb, hcell0⟩ := HC.out (by omega)
      obtain ⟨p, rfl⟩ : ∃ p, k = p + 1 := ⟨k - 1, by omega⟩
      have hc1 : wr.cell? ⟨b, off + p, none⟩ = some (.string (sg ss p)) := (hbel.cell (p := ⟨b, off + p, none⟩) hb).trans (hcell0 p (by omega))
      have hc2 : wr.cell? ⟨b, off + (p + 1), none⟩ = some (.string (sg ss (p + 1))) := (hbel.cell (p := ⟨b, off + (p + 1), none⟩) hb).trans (hcell0 (p + 1) (by omega))
      clear hcell0 HC
      subst hao
      go_wp2
      go_quiet (fail)
      go_wp2
      · go_ret
        exact ⟨Or.inl rfl, below_drewN hbel nq⟩
      · have hle : (!Op.bytesLess (sg ss p).toList (sg ss (p + 1)).toList) = false ∨ (!(sg ss p).toList == (sg ss (p + 1)).toList) = false := by assumption
        have hall2 : Hid (∀ j, j + 1 < p + 1 + 1 → gtB (sg ss j) (sg ss (j + 1)) = false) := fun j hj => by
          rcases Nat.lt_or_ge (j + 1) (p + 1) with h | h
          · exact hall.out j h
          · rw [show j = p by omega]
            unfold gtB
            rcases hle with h | h <;> simp [h]
        go_roundw
        case rel => exact ⟨p + 1 + 1, Or.inl (by omega), by omega, by go_num, hall2, below_drewN hbel nq⟩
        case measure => simp [intOf]; omega
    · go_wp2
      go_ret
      exact ⟨Or.inr ⟨rfl, fun i hi => hall.out i (by rw [HLen.out] at hi; omega)⟩, hbel⟩

/-- Does the segment hold a star? (As strings.Contains answers.) -/
def star (s : ByteArray) : Bool := decide (0 ≤ Lib.indexByte s.data.toList 42)
theorem star_of {s : ByteArray} {k : Nat} (h : k < s.size) (h2 : bt s k = 42) : star s = true := by
  have h1 := Lib.indexByte_ge s.data.toList 42
  unfold star
  rw [decide_eq_true_iff]
  by_cases h0 : Lib.indexByte s.data.toList 42 < 0
  · exfalso
    have hn := Lib.indexByte_none (l := s.data.toList) (c := 42) (by omega) k
    have hl : k < s.data.toList.length := by simpa using h
    apply hn
    rw [List.getElem?_eq_getElem hl]
    have e : bt s k = ((s.data.toList[k]).toNat : Int) := by
      unfold bt; rw [dif_pos h]; rfl
    rw [e] at h2
    exact congrArg some (UInt8.toNat_inj.1 (show _ = 42 by omega))
  · omega

set_option maxHeartbeats 400000 in
theorem zzHasStar_any (s : ByteArray) (w : World) (hs : s.size ≤ maxLen) :
    Calls Tryd.prog 29 #[.string s] w fun e w' => (e = .returned (.bool false) ∨ (e = .returned (.bool true) ∧ Hid (star s = true))) ∧ w' = w := by
  unfold maxLen at hs
  have hg := get_bt s
  go_enter Tryd.func29, Tryd.ntmps29
  go_wp2
  go_loop [3] (fun i => ∃ k : Nat, k ≤ s.size ∧ i = .int .i64 k) (fun i => s.size - (intOf i).toNat)
  case atStart => exact ⟨0, Nat.zero_le _, rfl⟩
  case round =>
    obtain ⟨k, hk, rfl⟩ := hrel
    by_cases hlt : k < s.size
    · by_cases h1 : bt s k = 42
      · have h2 : (bt s k == 42) = true := by simp [h1]
        have H1 : Hid (bt s k = 42) := h1
        clear h1
        go_wp2
        go_ret
        exact ⟨Or.inr ⟨rfl, star_of hlt H1.out⟩, rfl⟩
      · have h2 : (bt s k == 42) = false := by simp [h1]
        clear h1
        go_wp2
        go_round
        case rel => exact ⟨k + 1, by omega, by go_num⟩
        case measure => simp [intOf]; omega
    · go_wp2
      go_ret
      exact ⟨Or.inl rfl, rfl⟩

def SomeStar (ss : List ByteArray) : Prop := ∃ i, i < ss.length ∧ star (sg ss i) = true

set_option maxHeartbeats 400000 in
theorem zzSomeStar_any (v : Value) (ss : List ByteArray) (w : World) (hS : Strs w v ss) (hl : ∀ i, (sg ss i).size ≤ maxLen) :
    Calls Tryd.prog 18 #[v] w fun e w' => (e = .returned (.bool false) ∨ (e = .returned (.bool true) ∧ Hid (SomeStar ss))) ∧ w' = w := by
  obtain ⟨ao, cap, rfl, hn, HC⟩ := hS.sized
  clear hS
  generalize hlen : ss.length = n at *
  have HLen : Hid (ss.length = n) := hlen
  have HL : Hid (∀ i, (sg ss i).size ≤ maxLen) := hl
  clear hlen hl
  go_enter Tryd.func18, Tryd.ntmps18
  go_wp2
  go_loop [3] (fun i => ∃ (k : Nat), k ≤ n ∧ i = .int .i64 k) (fun i => n - (intOf i).toNat)
  case atStart => exact ⟨0, Nat.zero_le _, rfl⟩
  case round =>
    obtain ⟨k, hk, rfl⟩ := hrel
    by_cases hlt : k < n
    · obtain ⟨b, off, hao, hb, hcell0⟩ := HC.out (by omega)
      have hcell := hcell0 k hlt
      have hsz := HL.out k
      clear hcell0 HC
      subst hao
      go_wp2_with fail
      refine (zzHasStar_any _ _ hsz).mono ?_
      rintro e w' ⟨rfl | ⟨rfl, hst⟩, rfl⟩
      · go_wp2
        go_round
        case rel => exact ⟨k + 1, by omega, by go_num⟩
        case measure => simp [intOf]; omega
      · go_wp2
        go_ret
        exact ⟨Or.inr ⟨rfl, k, by rw [HLen.out]; exact hlt, hst.out⟩, rfl⟩
    · go_wp2
      go_ret
      exact ⟨Or.inl rfl, rfl⟩

set_option maxHeartbeats 400000 in
theorem zzEvery_any (v : Value) (rs : List (Value × List ByteArray)) (w : World) (hS : Rws w v rs) (hl : ∀ i j, (sg (rr rs i) j).size ≤ maxLen) :
    Calls Tryd.prog 10 #[v] w fun e w' => (e = .returned (.bool false) ∨ (e = .returned (.bool true) ∧ Hid (∀ i, i < rs.length → SomeStar (rr rs i)))) ∧ w' = w := by
  obtain ⟨⟨ao, cap, rfl, hcap, hn, hc⟩, hrows⟩ := hS
  generalize hlen : rs.length = n at *
  have HC : Hid (0 < n → ∃ b off, ao = some ⟨b, off, none⟩ ∧ b < w.heap.size ∧ ∀ i, i < n → w.cell? ⟨b, off + i, none⟩ = some (rv rs i)) := hc
  have HR : Hid (∀ i, i < n → Strs w (rv rs i) (rr rs i)) := hrows
  have HL : Hid (∀ i j, (sg (rr rs i) j).size ≤ maxLen) := hl
  clear hc hl hrows hlen
  go_enter Tryd.func10, Tryd.ntmps10
  go_wp2
  go_loop [3] (fun i => ∃ (k : Nat), k ≤ n ∧ i = .int .i64 k ∧ Hid (∀ j, j < k → SomeStar (rr rs j))) (fun i => n - (intOf i).toNat)
  case atStart => exact ⟨0, Nat.zero_le _, rfl, fun j hj => by omega⟩
  case round =>
    obtain ⟨k, hk, rfl, hall⟩ := hrel
    by_cases hlt : k < n
    · obtain ⟨b, off, hao, hb, hcell0⟩ := HC.out (by omega)
      have hcell := hcell0 k hlt
      have hst : Hid (Strs w (rv rs k) (rr rs k)) := HR.out k hlt
      have hsz : Hid (∀ j, (sg (rr rs k) j).size ≤ maxLen) := HL.out k
      clear hcell0 HC
      subst hao
      go_wp2_with fail
      refine (zzSomeStar_any _ _ _ hst.out hsz.out).mono ?_
      rintro e w' ⟨rfl | ⟨rfl, hss⟩, rfl⟩
      · go_wp2
        go_ret
        exact ⟨Or.inl rfl, rfl⟩
      · have hall2 : Hid (∀ j, j < k + 1 → SomeStar (rr rs j)) := fun j hj => by
          rcases Nat.lt_or_ge j k with h' | h'
          · exact hall.out j h'
          · rw [show j = k by omega]; exact hss.out
        go_wp2
        go_round
        case rel => exact ⟨k + 1, by omega, by go_num, hall2⟩
        case measure => simp [intOf]; omega
    · go_wp2
      go_ret
      exact ⟨Or.inr ⟨rfl, fun i hi => hall.out i (by omega)⟩, rfl⟩
end Go.Proofs.Qxb6601214aDoor

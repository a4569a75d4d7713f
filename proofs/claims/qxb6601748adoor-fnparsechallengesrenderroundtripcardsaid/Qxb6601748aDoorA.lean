/- Seat b6601748aD: token characters, isTokenString, asciiLower. -/
import Derived.Test.Qxb6601748aDoorShelf
import Derived.WalkKit
import Derived.WalkSpells
import Derived.WalkLawsBesides
import Derived.PlainAid
import Derived.Handy
import Derived.Deep.QuietTactic
import Derived.BigQuiet
import Derived.Deep.RegionWith
import Derived.Laws.OwnMore
import Derived.Lib.SliceRun
namespace Go.Proofs.Qxb6601748aDoor
open Go.RowKit Go.PlainAid

theorem Tryd.info5 : (Tryd.prog.info? 5).map (fun i => (i.zero, i.size, i.bytes)) = some (some (.int .u8 0), 1, 1) := by kernel_rfl

def tcP (x : Int) : Prop := (97 ≤ x ∧ x ≤ 122) ∨ (65 ≤ x ∧ x ≤ 90) ∨ (48 ≤ x ∧ x ≤ 57) ∨ x = 33 ∨ x = 35 ∨ x = 36 ∨ x = 37 ∨ x = 38 ∨ x = 39 ∨ x = 42 ∨ x = 43 ∨ x = 45 ∨ x = 46 ∨ x = 94 ∨ x = 95 ∨ x = 96 ∨ x = 124 ∨ x = 126
def specials : ByteArray := ⟨#[34, 40, 41, 44, 47, 58, 59, 60, 61, 62, 63, 64, 91, 92, 93, 123, 125]⟩
/-- A token's character. -/
def tc (x : Int) : Bool := decide (32 < x) && decide (x < 127) && !decide (0 ≤ Lib.indexByte specials.data.toList x.toNat.toUInt8)

theorem tc_all : ∀ n : Fin 256, tc (n.val : Int) = (decide (97 ≤ (n.val : Int)) && decide ((n.val : Int) ≤ 122) || decide (65 ≤ (n.val : Int)) && decide ((n.val : Int) ≤ 90) || decide (48 ≤ (n.val : Int)) && decide ((n.val : Int) ≤ 57) || [33, 35, 36, 37, 38, 39, 42, 43, 45, 46, 94, 95, 96, 124, 126].contains (n.val : Int)) := by decide +kernel
theorem tc_iff {x : Int} (h0 : 0 ≤ x) (h1 : x < 256) : tc x = true ↔ tcP x := by
  obtain ⟨n, rfl⟩ : ∃ n : Nat, x = n := ⟨x.toNat, by omega⟩
  have h := tc_all ⟨n, by omega⟩
  simp only at h
  rw [h]
  simp only [tcP, Bool.or_eq_true, Bool.and_eq_true, decide_eq_true_eq, List.contains_cons, List.contains_nil, beq_iff_eq, Bool.or_false]
  omega
theorem tc_yes {x : Int} (h0 : 0 ≤ x) (h1 : x < 256) (h : tcP x) : tc x = true := (tc_iff h0 h1).2 h
theorem tc_no {x : Int} (h0 : 0 ≤ x) (h1 : x < 256) (h : ¬ tcP x) : tc x = false := by
  cases e : tc x with
  | false => rfl
  | true => exact absurd ((tc_iff h0 h1).1 e) h

theorem isTokenChar_any (x : Int) (h0 : 0 ≤ x) (h1 : x < 256) (w : World) :
    Calls Tryd.prog 19 #[.int .u8 x] w fun e w' => e = .returned (.bool (tc x)) ∧ w' = w := by
  by_cases h2 : 32 < x
  · by_cases h3 : x < 127
    · have ht : tc x = !decide (0 ≤ Lib.indexByte specials.data.toList x.toNat.toUInt8) := by simp [tc, h2, h3]
      rw [ht]
      have H := Tryd.strings_ContainsRune_ascii specials x w h0 (by omega)
      unfold specials at *
      generalize decide (0 ≤ Lib.indexByte _ _) = r at *
      clear ht
      go_enter Tryd.func19, Tryd.ntmps19
      go_wp2_with fail
      refine H.mono ?_
      rintro e w' ⟨rfl, rfl⟩
      go_wp2
      go_ret
      exact ⟨rfl, rfl⟩
    · have ht : tc x = false := by simp [tc, h3]
      rw [ht]
      clear ht
      go_enter Tryd.func19, Tryd.ntmps19
      go_wp2
      go_ret
      exact ⟨rfl, rfl⟩
  · have ht : tc x = false := by simp [tc, h2]
    rw [ht]
    clear ht
    go_enter Tryd.func19, Tryd.ntmps19
    go_wp2
    go_ret
    exact ⟨rfl, rfl⟩

set_option maxHeartbeats 800000 in
theorem isTchar_any (x : Int) (h0 : 0 ≤ x) (h1 : x < 256) (w : World) :
    Calls Tryd.prog 18 #[.int .u8 x] w fun e w' => e = .returned (.bool (tc x)) ∧ w' = w := by
  have H : Hid (∀ r : Bool, r = true → tcP x → r = tc x) := fun r hr h => by rw [hr, tc_yes h0 h1 h]
  have H2 : Hid (∀ r : Bool, r = false → ¬ tcP x → r = tc x) := fun r hr h => by rw [hr, tc_no h0 h1 h]
  go_enter Tryd.func18, Tryd.ntmps18
  go_wp2
  all_goals
    go_ret
    refine ⟨congrArg (fun r => Ending.returned (Value.bool r)) ?_, rfl⟩
    (try simp only [beq_iff_eq] at *)
    (try simp only [beq_eq_false_iff_ne, ne_eq] at *)
    first
    | exact H.out _ rfl (by unfold tcP; omega)
    | exact H2.out _ rfl (by unfold tcP; omega)

theorem bt_bounds (s : ByteArray) (k : Nat) : 0 ≤ bt s k ∧ bt s k < 256 := by
  unfold bt
  split
  · have := (s.get! k).toNat_lt
    constructor
    · omega
    · rename_i h
      have h2 := (s[k]).toNat_lt
      omega
  · decide

/-- A token: one character or more, each a token's. -/
def Tok (s : ByteArray) : Prop := 0 < s.size ∧ ∀ k, k < s.size → tc (bt s k) = true

set_option maxHeartbeats 400000 in
theorem isTokenString_any (s : ByteArray) (w : World) (hs : s.size ≤ maxLen) :
    Calls Tryd.prog 15 #[.string s] w fun e w' => ((e = .returned (.bool false) ∧ Hid (¬ Tok s)) ∨ (e = .returned (.bool true) ∧ Hid (Tok s))) ∧ w' = w := by
  unfold maxLen at hs
  have hg := get_bt s
  by_cases hz : s.size = 0
  · have HN : Hid (¬ Tok s) := fun h => by have := h.1; omega
    go_enter Tryd.func15, Tryd.ntmps15
    go_wp2
    go_ret
    exact ⟨Or.inl ⟨rfl, HN⟩, rfl⟩
  · have hz2 : ((s.size : Int) == 0) = false := by rw [beq_eq_false_iff_ne]; omega
    go_enter Tryd.func15, Tryd.ntmps15
    go_wp2
    go_loop [3] (fun i => ∃ k : Nat, k ≤ s.size ∧ i = .int .i64 k ∧ Hid (∀ j, j < k → tc (bt s j) = true)) (fun i => s.size - (intOf i).toNat)
    case atStart => exact ⟨0, Nat.zero_le _, rfl, fun j hj => absurd hj (Nat.not_lt_zero _)⟩
    case round =>
      obtain ⟨k, hk, rfl, hall⟩ := hrel
      by_cases hlt : k < s.size
      · have hbb := bt_bounds s k
        go_wp2_with fail
        refine (isTchar_any _ hbb.1 hbb.2 _).mono ?_
        rintro e w' ⟨rfl, rfl⟩
        cases ht : tc (bt s k) with
        | true =>
          have hall2 : Hid (∀ j, j < k + 1 → tc (bt s j) = true) := fun j hj => by
            rcases Nat.lt_or_ge j k with h | h
            · exact hall.out j h
            · rw [show j = k by omega]; exact ht
          go_wp2
          go_round
          case rel => exact ⟨k + 1, by omega, by go_num, hall2⟩
          case measure => simp [intOf]; omega
        | false =>
          have HN : Hid (¬ Tok s) := fun h => by rw [h.2 k hlt] at ht; cases ht
          go_wp2
          go_ret
          exact ⟨Or.inl ⟨rfl, HN⟩, rfl⟩
      · obtain rfl : k = s.size := by omega
        go_wp2
        go_ret
        exact ⟨Or.inr ⟨rfl, (⟨by omega, hall.out⟩ : Tok s)⟩, rfl⟩
end Go.Proofs.Qxb6601748aDoor

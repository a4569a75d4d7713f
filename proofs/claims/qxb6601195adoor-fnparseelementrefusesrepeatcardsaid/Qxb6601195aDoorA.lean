/- Small walks of seat b6601195aD: skipSpace, blankByte, zzBytes. -/
import Derived.Test.Qxb6601195aDoorProg
import Derived.WalkKit
import Derived.WalkSpells
import Derived.WalkLawsBesides
import Derived.PlainAid
namespace Go.Proofs.Qxb6601195aDoor
open Go.RowKit Go.PlainAid

/-- A blank, as a number. -/
def blB (n : Int) : Bool := n == 32 || n == 9

set_option maxHeartbeats 400000 in
theorem skipSpace_any (s : ByteArray) (i j : Nat) (w : World) (hs : s.size ≤ maxLen) (hij : i ≤ j) (hj : j ≤ s.size)
    (hb : ∀ k, i ≤ k → k < j → blB (bt s k) = true) (he : j < s.size → blB (bt s j) = false) :
    Calls Tryd.prog 13 #[.string s, .int .i64 i] w fun e w' => e = .returned (.int .i64 j) ∧ w' = w := by
  unfold maxLen at hs
  have HB : Hid (∀ k, i ≤ k → k < j → blB (bt s k) = true) := hb
  have HE : Hid (j < s.size → blB (bt s j) = false) := he
  clear hb he
  have hg := get_bt s
  go_enter Tryd.func13, Tryd.ntmps13
  go_wp2
  go_loop [1] (fun x => ∃ k : Nat, i ≤ k ∧ k ≤ j ∧ x = .int .i64 k) (fun x => s.size - (intOf x).toNat)
  case atStart => exact ⟨i, Nat.le_refl _, hij, rfl⟩
  case round =>
    obtain ⟨k, hk1, hk2, rfl⟩ := hrel
    by_cases hlt : k < j
    · have h1 := HB.out k hk1 hlt
      simp only [blB, Bool.or_eq_true] at h1
      have hks : k < s.size := by omega
      rcases h1 with h1 | h1
      · go_wp2
        all_goals
          go_round
          case rel => exact ⟨k + 1, by omega, by omega, by go_num⟩
          case measure => simp [intOf]; omega
      · have h2 : (bt s k == 32) = false := by simp at h1 ⊢; omega
        go_wp2
        all_goals
          go_round
          case rel => exact ⟨k + 1, by omega, by omega, by go_num⟩
          case measure => simp [intOf]; omega
    · obtain rfl : k = j := by omega
      by_cases hks : k < s.size
      · have h1 := HE.out hks
        simp only [blB, Bool.or_eq_false_iff] at h1
        obtain ⟨h1, h2⟩ := h1
        go_wp2
        go_ret
        exact ⟨rfl, rfl⟩
      · go_wp2
        go_ret
        exact ⟨rfl, rfl⟩
end Go.Proofs.Qxb6601195aDoor

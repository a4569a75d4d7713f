/- Seat b6601214aD: match, at whatever two function values. -/
import Derived.Test.Qxb6601214aDoorG
import Derived.Deep.LoopGhost
namespace Go.Proofs.Qxb6601214aDoor
open Go.RowKit Go.PlainAid Go.Sort Go.Shelf

/-- How many rounds are left at most. -/
def left (n m i rs : Nat) : Nat := (m - rs) * (n + 1) + (n - i) + 1
theorem left_star {n m i j rs : Nat} (h1 : rs ≤ j) (h2 : i < n) : left n m (i + 1) j + 1 ≤ left n m i rs := by
  unfold left
  have := Nat.mul_le_mul_right (n + 1) (show m - j ≤ m - rs by omega)
  omega
theorem left_is {n m i rs : Nat} (h2 : i < n) : left n m (i + 1) rs + 1 ≤ left n m i rs := by
  unfold left; omega
theorem left_back {n m i l rs : Nat} (h : rs < m) : left n m (l + 1) (rs + 1) + 1 ≤ left n m i rs := by
  unfold left
  have e : (m - rs) * (n + 1) = (m - (rs + 1)) * (n + 1) + (n + 1) := by
    rw [show m - rs = m - (rs + 1) + 1 by omega, Nat.succ_mul]
  omega

theorem tailOk_step {st : Nat → Bool} {n k : Nat} {V : Bool} (hk : k < n) (hs : st k = true) (h : tailOk st (n - k) k = V) : tailOk st (n - (k + 1)) (k + 1) = V := by
  rw [show n - k = n - (k + 1) + 1 by omega] at h
  simpa [tailOk, hs] using h
theorem tailOk_stop {st : Nat → Bool} {n k : Nat} {V : Bool} (hk : k < n) (hs : st k = false) (h : tailOk st (n - k) k = V) : V = false := by
  rw [show n - k = n - (k + 1) + 1 by omega] at h
  simpa [tailOk, hs] using h.symm

set_option maxHeartbeats 1000000 in
set_option maxRecDepth 100000 in
theorem match_any (gs gi : Nat) (la lb : Array Value) (egs : ∀ args w, (callFunc gs args).run Tryd.prog w = .ok (.enter gs args) w) (egi : ∀ args w, (callFunc gi args).run Tryd.prog w = .ok (.enter gi args) w)
    (st : Nat → Bool) (is : Nat → Nat → Bool) (n m : Nat) (w : World) (hn : n ≤ 1048577) (hm : m ≤ 1048577)
    (hst : ∀ (W : World) (i : Nat), Below w.heap.size w W → i < n → Calls Tryd.prog gs (#[.int .i64 i] ++ la) W fun e w' => e = .returned (.bool (st i)) ∧ Below W.heap.size W w')
    (his : ∀ (W : World) (i j : Nat), Below w.heap.size w W → i < n → j < m → Calls Tryd.prog gi (#[.int .i64 i, .int .i64 j] ++ lb) W fun e w' => e = .returned (.bool (is i j)) ∧ Below W.heap.size W w') :
    Calls Tryd.prog 25 #[.int .i64 n, .int .i64 m, .func (.func gs) #[] la, .func (.func gi) #[] lb] w fun e w' => e = .returned (.bool (mval st is n m)) ∧ Below w.heap.size w w' := by
  have HST : Hid (∀ (W : World) (i : Nat), Below w.heap.size w W → i < n → Calls Tryd.prog gs (#[.int .i64 i] ++ la) W fun e w' => e = .returned (.bool (st i)) ∧ Below W.heap.size W w') := hst
  have HIS : Hid (∀ (W : World) (i j : Nat), Below w.heap.size w W → i < n → j < m → Calls Tryd.prog gi (#[.int .i64 i, .int .i64 j] ++ lb) W fun e w' => e = .returned (.bool (is i j)) ∧ Below W.heap.size W w') := his
  clear hst his
  generalize hV : mval st is n m = V
  have HV : Hid (mrun st is n m (m * (n + 1) + n + 1) 0 0 (-1) 0 = V) := hV
  clear hV
  go_enter Tryd.func25, Tryd.ntmps25
  go_wp2
  go_loopg [9, 10, 11, 12] (m * (n + 1) + n + 1) (fun g a b c d wr => ∃ (i j rs : Nat) (ls : Int), a = .int .i64 i ∧ b = .int .i64 j ∧ c = .int .i64 ls ∧ d = .int .i64 rs ∧ i ≤ n ∧ j ≤ m ∧ rs ≤ j ∧ -1 ≤ ls ∧ ls < n ∧ Hid (left n m i rs ≤ g) ∧ Hid (mrun st is n m g i j ls rs = V) ∧ Below w.heap.size w wr)
  case atStart => exact ⟨0, 0, 0, -1, rfl, rfl, rfl, rfl, Nat.zero_le _, Nat.zero_le _, Nat.le_refl _, by omega, by omega, (by show left n m 0 0 ≤ _; unfold left; simp), HV, Below.refl _ _⟩
  case round =>
    obtain ⟨i, j, rs, ls, rfl, rfl, rfl, rfl, hi, hj, hrs, hls, hls2, hleft, hrun, hbel⟩ := hrel
    clear HV
    obtain ⟨g, rfl⟩ : ∃ g, gk = g + 1 := ⟨gk - 1, by have := hleft.out; unfold left at this; omega⟩
    by_cases hjm : j < m
    · by_cases hin : i < n
      · have C1 := HST.out wr i hbel hin
        cases hs : st i with
        | true =>
          rw [hs] at C1
          have HC1 : Hid (Calls Tryd.prog gs (#[.int .i64 i] ++ la) wr fun e w' => e = .returned (.bool true) ∧ Below wr.heap.size wr w') := C1
          clear C1
          have hnext : Hid (mrun st is n m g (i + 1) j i j = V) := by
            have := hrun.out; unfold mrun at this; show _ = _; simpa [hjm, hin, hs] using this
          have hl2 : Hid (left n m (i + 1) j ≤ g) := by have := left_star (m := m) hrs hin; have := hleft.out; show _ ≤ _; omega
          clear hrun hleft
          go_wp2_with (go_at_fn gs; refine HC1.out.mono ?_; rintro e w' ⟨rfl, hb2⟩)
          go_roundg g
          case measure => omega
          case rel => exact ⟨i + 1, j, j, i, by go_num, rfl, rfl, rfl, by omega, hj, Nat.le_refl _, by omega, by omega, hl2, hnext, hbel.trans (hb2.mono hbel.size)⟩
        | false =>
          rw [hs] at C1
          have HC1 : Hid (Calls Tryd.prog gs (#[.int .i64 i] ++ la) wr fun e w' => e = .returned (.bool false) ∧ Below wr.heap.size wr w') := C1
          clear C1
          cases hq : is i j with
          | true =>
            have hnext : Hid (mrun st is n m g (i + 1) (j + 1) ls rs = V) := by
              have := hrun.out; unfold mrun at this; show _ = _; simpa [hjm, hin, hs, hq] using this
            have hl2 : Hid (left n m (i + 1) rs ≤ g) := by have := left_is (m := m) (rs := rs) hin; have := hleft.out; show _ ≤ _; omega
            clear hrun hleft
            go_wp2_with (first
              | (go_at_fn gs; refine HC1.out.mono ?_; rintro e w1 ⟨rfl, hb1⟩; have HC2 : Hid (Calls Tryd.prog gi (#[.int .i64 i, .int .i64 j] ++ lb) w1 fun e w' => e = .returned (.bool true) ∧ Below w1.heap.size w1 w') := (by have := HIS.out w1 i j (hbel.trans (hb1.mono hbel.size)) hin hjm; rw [hq] at this; exact this))
              | (go_at_fn gi; refine HC2.out.mono ?_; rintro e w2 ⟨rfl, hb2⟩))
            go_roundg g
            case measure => omega
            case rel => exact ⟨i + 1, j + 1, rs, ls, by go_num, by go_num, rfl, rfl, by omega, by omega, by omega, hls, hls2, hl2, hnext, (hbel.trans (hb1.mono hbel.size)).trans (hb2.mono (Nat.le_trans hbel.size hb1.size))⟩
          | false =>
            by_cases hl0 : 0 ≤ ls
            · obtain ⟨l, rfl⟩ := Int.eq_ofNat_of_zero_le hl0
              have hnext : Hid (mrun st is n m g (l + 1) (rs + 1) l (rs + 1) = V) := by
                have := hrun.out; unfold mrun at this; show _ = _; simpa [hjm, hin, hs, hq] using this
              have hl2 : Hid (left n m (l + 1) (rs + 1) ≤ g) := by have := left_back (n := n) (i := i) (l := l) (show rs < m by omega); have := hleft.out; show _ ≤ _; omega
              clear hrun hleft
              go_wp2_with (first
                | (go_at_fn gs; refine HC1.out.mono ?_; rintro e w1 ⟨rfl, hb1⟩; have HC2 : Hid (Calls Tryd.prog gi (#[.int .i64 i, .int .i64 j] ++ lb) w1 fun e w' => e = .returned (.bool false) ∧ Below w1.heap.size w1 w') := (by have := HIS.out w1 i j (hbel.trans (hb1.mono hbel.size)) hin hjm; rw [hq] at this; exact this))
                | (go_at_fn gi; refine HC2.out.mono ?_; rintro e w2 ⟨rfl, hb2⟩))
              go_roundg g
              case measure => omega
              case rel => exact ⟨l + 1, rs + 1, rs + 1, l, by go_num, by go_num, rfl, by go_num, by omega, by omega, Nat.le_refl _, by omega, by omega, hl2, hnext, (hbel.trans (hb1.mono hbel.size)).trans (hb2.mono (Nat.le_trans hbel.size hb1.size))⟩
            · have hfin : Hid (V = false) := by
                have := hrun.out; unfold mrun at this; simp [hjm, hin, hs, hq, hl0] at this; exact this
              clear hrun hleft
              go_wp2_with (first
                | (go_at_fn gs; refine HC1.out.mono ?_; rintro e w1 ⟨rfl, hb1⟩; have HC2 : Hid (Calls Tryd.prog gi (#[.int .i64 i, .int .i64 j] ++ lb) w1 fun e w' => e = .returned (.bool false) ∧ Below w1.heap.size w1 w') := (by have := HIS.out w1 i j (hbel.trans (hb1.mono hbel.size)) hin hjm; rw [hq] at this; exact this))
                | (go_at_fn gi; refine HC2.out.mono ?_; rintro e w2 ⟨rfl, hb2⟩))
              go_ret
              exact ⟨by rw [hfin.out]; rfl, (hbel.trans (hb1.mono hbel.size)).trans (hb2.mono (Nat.le_trans hbel.size hb1.size))⟩
      · by_cases hl0 : 0 ≤ ls
        · obtain ⟨l, rfl⟩ := Int.eq_ofNat_of_zero_le hl0
          have hnext : Hid (mrun st is n m g (l + 1) (rs + 1) l (rs + 1) = V) := by
            have := hrun.out; unfold mrun at this; show _ = _; simpa [hjm, hin] using this
          have hl2 : Hid (left n m (l + 1) (rs + 1) ≤ g) := by have := left_back (n := n) (i := i) (l := l) (show rs < m by omega); have := hleft.out; show _ ≤ _; omega
          clear hrun hleft
          go_wp2
          go_roundg g
          case measure => omega
          case rel => exact ⟨l + 1, rs + 1, rs + 1, l, by go_num, by go_num, rfl, by go_num, by omega, by omega, Nat.le_refl _, by omega, by omega, hl2, hnext, hbel⟩
        · have hfin : Hid (V = false) := by
            have := hrun.out; unfold mrun at this; simp [hjm, hin, hl0] at this; exact this
          clear hrun hleft
          go_wp2
          go_ret
          exact ⟨by rw [hfin.out]; rfl, hbel⟩
    · have htail : Hid (tailOk st (n - i) i = V) := by
        have := hrun.out; unfold mrun at this; show _ = _; simpa [hjm] using this
      clear hrun hleft HIS
      go_wp2
      go_loopw [9] (fun a wr => ∃ k : Nat, a = .int .i64 k ∧ k ≤ n ∧ Hid (tailOk st (n - k) k = V) ∧ Below w.heap.size w wr) (fun a _ => n - (intOf a).toNat)
      case atStart => exact ⟨i, rfl, hi, htail, hbel⟩
      case round =>
        obtain ⟨k, rfl, hk, htk, hbk⟩ := hrel
        by_cases hkn : k < n
        · have C1 := HST.out wr k hbk hkn
          cases hs : st k with
          | true =>
            rw [hs] at C1
            have HC1 : Hid (Calls Tryd.prog gs (#[.int .i64 k] ++ la) wr fun e w' => e = .returned (.bool true) ∧ Below wr.heap.size wr w') := C1
            have hn2 : Hid (tailOk st (n - (k + 1)) (k + 1) = V) := tailOk_step hkn hs htk.out
            clear C1 htk htail
            go_wp2_with (go_at_fn gs; refine HC1.out.mono ?_; rintro e w' ⟨rfl, hb2⟩)
            go_roundw
            case rel => exact ⟨k + 1, by go_num, by omega, hn2, hbk.trans (hb2.mono hbk.size)⟩
            case measure => simp [intOf]; omega
          | false =>
            rw [hs] at C1
            have HC1 : Hid (Calls Tryd.prog gs (#[.int .i64 k] ++ la) wr fun e w' => e = .returned (.bool false) ∧ Below wr.heap.size wr w') := C1
            have hfin : Hid (V = false) := tailOk_stop hkn hs htk.out
            have hkn2 : ((k : Int) == (n : Int)) = false := by simp; omega
            clear C1 htk htail
            go_wp2_with (go_at_fn gs; refine HC1.out.mono ?_; rintro e w' ⟨rfl, hb2⟩)
            go_ret
            exact ⟨by rw [hfin.out]; rfl, hbk.trans (hb2.mono hbk.size)⟩
        · obtain rfl : k = n := by omega
          have hfin : Hid (V = true) := by have := htk.out; simp [tailOk] at this; exact this
          clear htk htail
          go_wp2
          go_ret
          exact ⟨by rw [hfin.out]; first | rfl | simp, hbk⟩
end Go.Proofs.Qxb6601214aDoor

/- Seat b6601496aD: FnCutFieldMatchesScan. -/
import Derived.Test.Qxb6601496aDoorC
import Derived.Deep.CutBlock
import Derived.Lib.Builder
namespace Go.Proofs.Qxb6601496aDoor
open Go.RowKit Go.PlainAid

theorem In.of_at {w : World} {p : Option Addr} {h n : Nat} {X : Nat → Int} (hA : At w p h n X) : In w p n X := fun hn => by
  obtain ⟨h1, h2, h3⟩ := hA hn
  exact ⟨h, 0, h1, h2, fun i hi => by rw [Nat.zero_add]; exact h3 i hi⟩

/-- b[l:h] of the cloned slice. -/
theorem slice_at (p : Option Addr) (n l h : Nat) (h1 : l ≤ h) (h2 : h ≤ n) : ∃ q, (∀ W, (Instr.slice 22 (.slice p n n) (some (.int .i64 (l : Int))) (some (.int .i64 (h : Int))) none).run Tryd.prog W = .ok (.slice q (h - l) (n - l)) W) ∧ ∀ b o, p = some ⟨b, o, none⟩ → l < h → q = some ⟨b, o + l, none⟩ := by
  refine ⟨if n = l then p else p.map (·.add (l * 1)), ?_, fun b o hp hl => ?_⟩
  · intro W
    rw [run_slice_lh W 22 _ _ _ elem22 .i64 .i64 _ _ (by omega) (by omega) (by omega), elem22', Tryd.sizeOf5]
    rfl
  · subst hp
    rw [if_neg (by omega), Option.map_some, Nat.mul_one, Go.WideShapes.add_plain]

set_option maxHeartbeats 4000000 in
set_option maxRecDepth 100000 in
theorem matches_walk (p : Option Addr) (n c : Nat) (X : Nat → Int) (hX : Byt X) (w : World) (hI : In w p n X) (hn : n ≤ 140737488355328) :
    Calls Tryd.prog 3 #[.slice p n c] w fun e w' => e = .returned (.bool true) ∧ Below w.heap.size w w' := by
  have HI : Hid (In w p n X) := hI
  have HX : Hid (Byt X) := hX
  clear hI hX
  go_enter Tryd.func3, Tryd.ntmps3
  go_wp2_with fail
  refine (zzBytes6_any p n c w hn).mono ?_
  rintro e w1 ⟨rfl | ⟨rfl, hsm⟩, rfl⟩
  · go_wp2
    go_ret
    exact ⟨rfl, Below.refl _ _⟩
  go_wp2_with fail
  refine (clone_any p n c X _ HI.out hsm).mono ?_
  rintro e w2 ⟨q, rfl, hat, hb2⟩
  clear HI
  go_wp2_with fail
  refine (zzcut_any q n n X HX.out _ (In.of_at hat.out) (Nat.le_refl _) (by omega)).mono ?_
  rintro e w3 ⟨fa, fl, fc, ra, rl, rc, rfl, hok, hb3⟩
  have hat3 : Hid (At w3 q w1.heap.size n X) := hat.out.below hb3 (Nat.le_refl _)
  have hb13 : Below w1.heap.size w1 w3 := hb2.trans (hb3.mono hb2.size)
  clear hat hb2 hb3
  obtain ⟨rfl, rfl, hfa, hra, hrl, hrc, hpl⟩ := hok.out
  have HPL : Hid (∀ b o, q = some ⟨b, o, none⟩ → (0 < fe X n - fs X n → fa = some ⟨b, o + fs X n, none⟩) ∧ (0 < n - fr X n → ra = some ⟨b, o + fr X n, none⟩)) := hpl
  clear hok hpl
  have hle1 := fs_le X n
  obtain ⟨hle2, hle3⟩ := fe_spec X n
  obtain ⟨hle4, hle5⟩ := fr_spec X n
  go_upto_block 0 with fail
  go_cut [6] from 24 to 35 (fun s wx => s = .int .i64 (fs X n : Nat) ∧ w3 = wx)
  case first =>
    go_wp2_with fail
    go_loop [6] (fun i => ∃ k : Nat, 0 ≤ k ∧ k ≤ n ∧ i = .int .i64 k ∧ Hid (∀ j, 0 ≤ j → j < k → nb X j = false)) (fun i => n - (intOf i).toNat)
    case atStart => exact ⟨0, Nat.le_refl _, by omega, rfl, fun j h0 hj => absurd hj (by omega)⟩
    case round =>
      obtain ⟨k, hk0, hk, rfl, hall⟩ := hrel
      by_cases hlt : k < n
      · obtain ⟨hq, hl, hc0⟩ := hat3.out (by omega)
        have hc := hc0 k hlt
        clear hc0
        subst hq
        go_wp2_with fail
        refine (blank_any _ _).mono ?_
        rintro e w4 ⟨rfl, rfl⟩
        by_cases hbk : blank (X k) = true
        · have hall2 : Hid (∀ j, 0 ≤ j → j < k + 1 → nb X j = false) := fun j h0 hj => by
            rcases Nat.lt_or_ge j k with h | h
            · exact hall.out j h0 h
            · rw [show j = k by omega]; simp [nb, hbk]
          go_wp2
          go_round
          case rel => exact ⟨k + 1, by omega, by omega, by go_num, hall2⟩
          case measure => simp [intOf]; omega
        · have hbk' : blank (X k) = false := by simpa using hbk
          have hfs : fs X n = k := scan_uniq hk0 hk hall.out (fun _ => by simp [nb, hbk'])
          have HF : Hid (fs X n = k) := hfs
          clear hbk hfs
          go_wp2
          go_meet
          exact ⟨by rw [HF.out], rfl⟩
      · have HF : Hid (fs X n = k) := scan_uniq hk0 hk hall.out (fun h => absurd h hlt)
        go_wp2
        go_meet
        exact ⟨by rw [HF.out], rfl⟩
  case rest =>
    obtain ⟨rfl, rfl⟩ := hcut
    go_upto_block 2 with fail
    go_cut [7] from 37 to 49 (fun s wx => s = .int .i64 (fe X n : Nat) ∧ w3 = wx)
    case first =>
      go_wp2_with fail
      go_loop [7] (fun i => ∃ k : Nat, fs X n ≤ k ∧ k ≤ n ∧ i = .int .i64 k ∧ Hid (∀ j, fs X n ≤ j → j < k → bl X j = false)) (fun i => n - (intOf i).toNat)
      case atStart => exact ⟨fs X n, Nat.le_refl _, by omega, rfl, fun j h0 hj => absurd hj (by omega)⟩
      case round =>
        obtain ⟨k, hk0, hk, rfl, hall⟩ := hrel
        by_cases hlt : k < n
        · obtain ⟨hq, hl, hc0⟩ := hat3.out (by omega)
          have hc := hc0 k hlt
          clear hc0
          subst hq
          go_wp2_with fail
          refine (blank_any _ _).mono ?_
          rintro e w4 ⟨rfl, rfl⟩
          by_cases hbk : blank (X k) = false
          · have hall2 : Hid (∀ j, fs X n ≤ j → j < k + 1 → bl X j = false) := fun j h0 hj => by
              rcases Nat.lt_or_ge j k with h | h
              · exact hall.out j h0 h
              · rw [show j = k by omega]; simp [bl, hbk]
            go_wp2
            go_round
            case rel => exact ⟨k + 1, by omega, by omega, by go_num, hall2⟩
            case measure => simp [intOf]; omega
          · have hbk' : blank (X k) = true := by simpa using hbk
            have hfs : fe X n = k := scan_uniq hk0 hk hall.out (fun _ => by simp [bl, hbk'])
            have HF : Hid (fe X n = k) := hfs
            clear hbk hfs
            go_wp2
            go_meet
            exact ⟨by rw [HF.out], rfl⟩
        · have HF : Hid (fe X n = k) := scan_uniq hk0 hk hall.out (fun h => absurd h hlt)
          go_wp2
          go_meet
          exact ⟨by rw [HF.out], rfl⟩
    case rest =>
      obtain ⟨rfl, rfl⟩ := hcut
      go_upto_block 4 with fail
      go_cut [8] from 51 to 62 (fun s wx => s = .int .i64 (fr X n : Nat) ∧ w3 = wx)
      case first =>
        go_wp2_with fail
        go_loop [8] (fun i => ∃ k : Nat, fe X n ≤ k ∧ k ≤ n ∧ i = .int .i64 k ∧ Hid (∀ j, fe X n ≤ j → j < k → nb X j = false)) (fun i => n - (intOf i).toNat)
        case atStart => exact ⟨fe X n, Nat.le_refl _, by omega, rfl, fun j h0 hj => absurd hj (by omega)⟩
        case round =>
          obtain ⟨k, hk0, hk, rfl, hall⟩ := hrel
          by_cases hlt : k < n
          · obtain ⟨hq, hl, hc0⟩ := hat3.out (by omega)
            have hc := hc0 k hlt
            clear hc0
            subst hq
            go_wp2_with fail
            refine (blank_any _ _).mono ?_
            rintro e w4 ⟨rfl, rfl⟩
            by_cases hbk : blank (X k) = true
            · have hall2 : Hid (∀ j, fe X n ≤ j → j < k + 1 → nb X j = false) := fun j h0 hj => by
                rcases Nat.lt_or_ge j k with h | h
                · exact hall.out j h0 h
                · rw [show j = k by omega]; simp [nb, hbk]
              go_wp2
              go_round
              case rel => exact ⟨k + 1, by omega, by omega, by go_num, hall2⟩
              case measure => simp [intOf]; omega
            · have hbk' : blank (X k) = false := by simpa using hbk
              have hfs : fr X n = k := scan_uniq hk0 hk hall.out (fun _ => by simp [nb, hbk'])
              have HF : Hid (fr X n = k) := hfs
              clear hbk hfs
              go_wp2
              go_meet
              exact ⟨by rw [HF.out], rfl⟩
          · have HF : Hid (fr X n = k) := scan_uniq hk0 hk hall.out (fun h => absurd h hlt)
            go_wp2
            go_meet
            exact ⟨by rw [HF.out], rfl⟩
      case rest =>
        obtain ⟨rfl, rfl⟩ := hcut
        have hs1 : Hid (In w3 fa (fe X n - fs X n) (fun j => X (fs X n + j))) := fun hp => by
          obtain ⟨hq, hl, hc0⟩ := hat3.out (by omega)
          exact ⟨_, _, (HPL.out _ _ hq).1 hp, hl, fun i hi => by rw [Nat.zero_add]; exact hc0 _ (by omega)⟩
        have hs2 : Hid (In w3 ra (n - fr X n) (fun j => X (fr X n + j))) := fun hp => by
          obtain ⟨hq, hl, hc0⟩ := hat3.out (by omega)
          exact ⟨_, _, (HPL.out _ _ hq).2 hp, hl, fun i hi => by rw [Nat.zero_add]; exact hc0 _ (by omega)⟩
        obtain ⟨q1, hq1, hq1'⟩ := slice_at q n (fs X n) (fe X n) (by omega) (by omega)
        obtain ⟨q2, hq2, hq2'⟩ := slice_at q n (fr X n) n (by omega) (by omega)
        have hs3 : Hid (In w3 q1 (fe X n - fs X n) (fun j => X (fs X n + j))) := fun hp => by
          obtain ⟨hq, hl, hc0⟩ := hat3.out (by omega)
          exact ⟨_, _, hq1' _ _ hq (by omega), hl, fun i hi => by rw [Nat.zero_add]; exact hc0 _ (by omega)⟩
        have hs4 : Hid (In w3 q2 (n - fr X n) (fun j => X (fr X n + j))) := fun hp => by
          obtain ⟨hq, hl, hc0⟩ := hat3.out (by omega)
          exact ⟨_, _, hq2' _ _ hq (by omega), hl, fun i hi => by rw [Nat.zero_add]; exact hc0 _ (by omega)⟩
        clear hq1' hq2'
        go_wp2_with fail
        refine (same_any _ _ _ _ _ _ _ hs1.out hs3.out (by omega)).mono ?_
        rintro e w4 ⟨rfl, hb4⟩
        have hs2' := hs2.out.below hb4 (Nat.le_refl _)
        have hs4' := hs4.out.below hb4 (Nat.le_refl _)
        have HS2 : Hid (In w4 ra (n - fr X n) (fun j => X (fr X n + j))) := hs2'
        have HS4 : Hid (In w4 q2 (n - fr X n) (fun j => X (fr X n + j))) := hs4'
        clear hs1 hs2 hs3 hs4 hs2' hs4'
        go_wp2_with fail
        refine (same_any _ _ _ _ _ _ _ HS2.out HS4.out (by omega)).mono ?_
        rintro e w5 ⟨rfl, hb5⟩
        have hb15 : Below w1.heap.size w1 w5 := hb13.trans ((hb4.trans (hb5.mono hb4.size)).mono hb13.size)
        clear HS2 HS4 hb4 hb5
        have hse : fs X n < n → fs X n < fe X n := fs_lt
        clear hq1 hq2
        generalize fs X n = s at *
        generalize fe X n = f at *
        generalize fr X n = r at *
        obtain ⟨i0, hi, _, _, _⟩ := info_parts Tryd.info5
        have hptr : ∀ (W : World) (a : Addr), (binOp .neq 29 (.pointer (some a)) (.pointer (some a))).run Tryd.prog W = .ok (.bool false) W := fun W a => Lib.run_neq_ptr_same W a Tryd.underlying29 hi
        have hnil : ∀ (W : World) (a : Option Addr) (l k : Nat), (binOp .eql 22 (.slice a l k) (.slice none 0 0)).run Tryd.prog W = .ok (.bool a.isNone) W := fun W a l k => Lib.run_eql_slice_nil (P := Tryd.prog) W 22 5 a l k 0 0 Tryd.underlying22
        by_cases hA : s < n
        · have hsf := hse hA
          obtain ⟨hq, hl, hc0⟩ := hat3.out (by omega)
          have hf' := (HPL.out _ _ hq).1 (by omega)
          subst hf'
          have g1 : decide ((s : Int) < (f : Int)) = true := by simp; omega
          have hsn : (s : Int) < (n : Int) := by omega
          have hL : (0 : Int) < ((f - s : Nat) : Int) := by omega
          have hL0 : (((f - s : Nat) : Int) == 0) = false := by simp; omega
          have hLn : 0 < f - s := by omega
          generalize f - s = L at *
          by_cases hB : r < n
          · have hr' := (HPL.out _ _ hq).2 (by omega)
            subst hr'
            subst hq
            have g2 : decide ((r : Int) < (n : Int)) = true := by simp; omega
            have hrn : (r : Int) < (n : Int) := by omega
            have hM : (0 : Int) < ((n - r : Nat) : Int) := by omega
            have hM0 : (((n - r : Nat) : Int) == 0) = false := by simp; omega
            have hMn : 0 < n - r := by omega
            generalize n - r = M at *
            clear hat3 HPL hc0 hse hA hfa hra hrl hrc hB hle1 hle2 hle3 hle4 hle5
            go_wp2
            go_quiet (fail)
            go_wp2
            go_quiet (fail)
            go_wp2
            go_ret
            exact ⟨rfl, below_drewN hb15 _⟩
          · obtain rfl : r = n := by omega
            obtain rfl : ra = none := by
              rw [show decide (r - r = 0) = true by simp] at hra
              simpa using hra
            subst hq
            have g2 : decide ((r : Int) < (r : Int)) = false := by simp
            have hM0 : (((r - r : Nat) : Int) == 0) = true := by simp
            have hM1 : r - r = 0 := by omega
            rw [hM1]
            clear hat3 HPL hc0 hse hA hfa hra hrl hrc hB hle1 hle2 hle3 hle4 hle5 hM0 hM1
            go_wp2
            go_quiet (fail)
            go_wp2
            go_quiet (fail)
            go_wp2
            go_ret
            exact ⟨rfl, below_drewN hb15 _⟩
        · obtain rfl : s = n := by omega
          obtain rfl : f = s := by omega
          obtain rfl : r = f := by omega
          obtain rfl : ra = none := by
            rw [show decide (r - r = 0) = true by simp] at hra
            simpa using hra
          obtain rfl : fa = none := by
            rw [show decide (r - r = 0) = true by simp] at hfa
            simpa using hfa
          have g2 : decide ((r : Int) < (r : Int)) = false := by simp
          have hM1 : r - r = 0 := by omega
          rw [hM1]
          clear hat3 HPL hse hA hfa hra hrl hrc hle1 hle2 hle3 hle4 hle5 hM1
          go_wp2
          go_quiet (fail)
          go_wp2
          go_quiet (fail)
          go_wp2
          go_ret
          exact ⟨rfl, below_drewN hb15 _⟩
end Go.Proofs.Qxb6601496aDoor

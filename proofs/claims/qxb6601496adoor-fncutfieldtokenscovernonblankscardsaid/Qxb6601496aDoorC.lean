/- Seat b6601496aD: cutField, ZZcutField. -/
import Derived.Test.Qxb6601496aDoorB
namespace Go.Proofs.Qxb6601496aDoor
open Go.RowKit Go.PlainAid

/-- The field's start, its end, the rest's start. -/
def fs (X : Nat → Int) (n : Nat) : Nat := scan (nb X) n 0
def fe (X : Nat → Int) (n : Nat) : Nat := scan (bl X) n (fs X n)
def fr (X : Nat → Int) (n : Nat) : Nat := scan (nb X) n (fe X n)

theorem fs_le (X : Nat → Int) (n : Nat) : fs X n ≤ n := (scan_spec (p := nb X) (n := n) (i := 0) (Nat.zero_le _)).2.1
theorem fe_spec (X : Nat → Int) (n : Nat) : fs X n ≤ fe X n ∧ fe X n ≤ n := ⟨(scan_spec (p := bl X) (fs_le X n)).1, (scan_spec (p := bl X) (fs_le X n)).2.1⟩
theorem fr_spec (X : Nat → Int) (n : Nat) : fe X n ≤ fr X n ∧ fr X n ≤ n := ⟨(scan_spec (p := nb X) (fe_spec X n).2).1, (scan_spec (p := nb X) (fe_spec X n).2).2.1⟩
theorem fs_lt {X : Nat → Int} {n : Nat} (h : fs X n < n) : fs X n < fe X n := by
  rcases Nat.lt_or_ge (fs X n) (fe X n) with h' | h'
  · exact h'
  · exfalso
    have he : fe X n = fs X n := Nat.le_antisymm h' (fe_spec X n).1
    have h1 : nb X (fs X n) = true := (scan_spec (p := nb X) (n := n) (i := 0) (Nat.zero_le _)).2.2.2 h
    have h2 : bl X (fe X n) = true := (scan_spec (p := bl X) (fs_le X n)).2.2.2 (show fe X n < n by omega)
    rw [he] at h2
    simp [nb, bl] at h1 h2
    rw [h1] at h2; cases h2

theorem scan_shift {p : Nat → Bool} {n s : Nat} (h : s ≤ n) : scan (fun j => p (s + j)) (n - s) 0 = scan p n s - s := by
  obtain ⟨g1, g2, g3, g4⟩ := scan_spec (p := p) h
  refine scan_uniq (Nat.zero_le _) (by omega) (fun j _ hj => g3 (s + j) (by omega) (by omega)) (fun hl => ?_)
  rw [show s + (scan p n s - s) = scan p n s by omega]
  exact g4 (by omega)

/-- What cutField hands back: the field fa (fl bytes), the rest ra (rl bytes). -/
def CutOk (X : Nat → Int) (n : Nat) (p fa : Option Addr) (fl : Nat) (ra : Option Addr) (rl rc c : Nat) : Prop :=
  fl = fe X n - fs X n ∧ rl = n - fr X n ∧ fa.isNone = decide (fl = 0) ∧ ra.isNone = decide (rl = 0) ∧ rl ≤ rc ∧ rc ≤ c ∧
    ∀ b o, p = some ⟨b, o, none⟩ → (0 < fl → fa = some ⟨b, o + fs X n, none⟩) ∧ (0 < rl → ra = some ⟨b, o + fr X n, none⟩)

theorem Cel.from {w w' : World} {b o n s : Nat} {X : Nat → Int} (h : Cel w b o n X) (hb : Below w.heap.size w w') (hl : b < w.heap.size) (hs : s ≤ n) : Cel w' b (o + s) (n - s) (fun j => X (s + j)) := fun i hi => by
  rw [Nat.add_assoc]
  exact (hb.cell (p := ⟨b, o + (s + i), none⟩) hl).trans (h (s + i) (by omega))

theorem elem22 : Tryd.prog.underlying 22 = some (.slice (Tryd.prog.elem 22)) := by simp [Program.elem, Tryd.underlying22]
theorem elem22' : Tryd.prog.elem 22 = 5 := by simp [Program.elem, Tryd.underlying22]
theorem slice_h (b o n c h : Nat) (hh : h ≤ c) (hc : 0 < c) (W : World) : (Instr.slice 22 (.slice (some ⟨b, o, none⟩) n c) none (some (.int .i64 (h : Int))) none).run Tryd.prog W = .ok (.slice (some ⟨b, o, none⟩) h c) W := by
  rw [run_slice_h W 22 _ _ _ elem22 .i64 _ (by omega) (by omega), elem22', Tryd.sizeOf5]
  have hne : ¬ c = 0 := by omega
  simp [Result.andThen, sliced, Addr.add, hne]
theorem slice_l (b o n c l : Nat) (hl : l ≤ n) (hc : l < c) (W : World) : (Instr.slice 22 (.slice (some ⟨b, o, none⟩) n c) (some (.int .i64 (l : Int))) none none).run Tryd.prog W = .ok (.slice (some ⟨b, o + l, none⟩) (n - l) (c - l)) W := by
  rw [run_slice_l W 22 _ _ _ elem22 .i64 _ (by omega) (by omega), elem22', Tryd.sizeOf5]
  have hne : ¬ c = l := by omega
  by_cases h0 : l = 0
  · subst h0
    simp [Result.andThen, sliced, Addr.add, hne]
  · simp [Result.andThen, sliced, Addr.add, hne, h0]

set_option maxHeartbeats 800000 in
theorem cut_any (p : Option Addr) (n c : Nat) (X : Nat → Int) (hX : Byt X) (w : World) (hI : In w p n X) (hnc : n ≤ c) (hbig : c ≤ 140737488355328) :
    Calls Tryd.prog 13 #[.slice p n c] w fun e w' => ∃ fa fl fc ra rl rc, e = .returned (.tuple #[.slice fa fl fc, .slice ra rl rc]) ∧ Hid (CutOk X n p fa fl ra rl rc c) ∧ Below w.heap.size w w' := by
  obtain ⟨e1, e2⟩ := fe_spec X n
  obtain ⟨r1, r2⟩ := fr_spec X n
  have hs := fs_le X n
  by_cases h0 : fs X n = n
  · have HT : Hid (Calls Tryd.prog 14 #[.slice p n c, .string ⟨#[32, 9]⟩] w fun e w' => e = .returned (.slice none 0 0) ∧ Below w.heap.size w w') := by
      rcases Nat.eq_zero_or_pos n with rfl | hp
      · exact (trim_none p c w).mono fun e w' ⟨h1, h2⟩ => ⟨h1, h2 ▸ Below.refl _ _⟩
      · obtain ⟨b, o, rfl, hl, hc⟩ := hI hp
        have h := trim_any b o n c X hX w hc hnc hbig
        rw [show cutV b o n c (scan (nb X) n 0) = .slice none 0 0 from if_pos h0] at h
        exact h
    have hok : Hid (CutOk X n p none 0 none 0 0 c) := ⟨by omega, by omega, rfl, rfl, Nat.le_refl _, Nat.zero_le _, fun b o _ => ⟨fun h => absurd h (by omega), fun h => absurd h (by omega)⟩⟩
    clear hI h0 hs r1 r2 e1 e2
    go_enter Tryd.func13, Tryd.ntmps13
    go_wp2_with fail
    refine HT.out.mono ?_
    rintro e w1 ⟨rfl, hb1⟩
    go_wp2_with fail
    refine (either_nil _).mono ?_
    rintro e w2 ⟨rfl, rfl⟩
    go_wp2
    go_ret2
    exact ⟨none, 0, 0, none, 0, 0, rfl, hok, hb1⟩
  · have h0' : fs X n < n := by omega
    have hse := fs_lt h0'
    obtain ⟨b, o, rfl, hl, hc⟩ := hI (by omega)
    have HT : Hid (Calls Tryd.prog 14 #[.slice (some ⟨b, o, none⟩) n c, .string ⟨#[32, 9]⟩] w fun e w' => e = .returned (.slice (some ⟨b, o + fs X n, none⟩) (n - fs X n) (c - fs X n)) ∧ Below w.heap.size w w') := by
      have h := trim_any b o n c X hX w hc hnc hbig
      rw [show cutV b o n c (scan (nb X) n 0) = .slice (some ⟨b, o + fs X n, none⟩) (n - fs X n) (c - fs X n) from if_neg h0] at h
      exact h
    have HE : ∀ w', Below w.heap.size w w' → Hid (Calls Tryd.prog 15 #[.slice (some ⟨b, o + fs X n, none⟩) (n - fs X n) (c - fs X n), .int .u8 32, .int .u8 9] w' fun e w'' => e = .returned (.int .i64 (ixV (n - fs X n) (fe X n - fs X n))) ∧ w'' = w') := fun w' hb => by
      have h := either_any b (o + fs X n) (n - fs X n) (c - fs X n) (fun j => X (fs X n + j)) (fun i => hX _) w' (Cel.from hc hb hl hs) (by omega)
      have e : scan (bl (fun j => X (fs X n + j))) (n - fs X n) 0 = fe X n - fs X n := scan_shift (p := bl X) hs
      rw [e] at h
      exact h
    by_cases hen : fe X n = n
    · have hrn : fr X n = n := by omega
      have hok : Hid (CutOk X n (some ⟨b, o, none⟩) (some ⟨b, o + fs X n, none⟩) (n - fs X n) none 0 0 c) := ⟨by omega, by omega, by
          rw [decide_eq_false (by omega)]; rfl, rfl, Nat.le_refl _, Nat.zero_le _, fun b' o' h => ⟨fun _ => by cases h; rfl, fun h => absurd h (by omega)⟩⟩
      rw [hen, show ixV (n - fs X n) (n - fs X n) = -1 from if_neg (Nat.lt_irrefl _)] at HE
      clear hI hc
      generalize fs X n = s at *
      clear hen hrn r1 r2 e1 e2 hse
      go_enter Tryd.func13, Tryd.ntmps13
      go_wp2_with fail
      refine HT.out.mono ?_
      rintro e w1 ⟨rfl, hb1⟩
      go_wp2_with fail
      refine (HE w1 hb1).out.mono ?_
      rintro e w2 ⟨rfl, rfl⟩
      go_wp2
      go_ret2
      exact ⟨_, _, _, none, 0, 0, rfl, hok, hb1⟩
    · have hen' : fe X n < n := by omega
      have HR : ∀ w', Below w.heap.size w w' → Hid (Calls Tryd.prog 14 #[.slice (some ⟨b, o + fe X n, none⟩) (n - fe X n) (c - fe X n), .string ⟨#[32, 9]⟩] w' fun e w'' => e = .returned (if fr X n = n then .slice none 0 0 else .slice (some ⟨b, o + fr X n, none⟩) (n - fr X n) (c - fr X n)) ∧ Below w'.heap.size w' w'') := fun w' hb => by
        have h := trim_any b (o + fe X n) (n - fe X n) (c - fe X n) (fun j => X (fe X n + j)) (fun i => hX _) w' (Cel.from hc hb hl e2) (by omega) (by omega)
        have e : scan (nb (fun j => X (fe X n + j))) (n - fe X n) 0 = fr X n - fe X n := scan_shift (p := nb X) e2
        rw [e] at h
        have hv : cutV b (o + fe X n) (n - fe X n) (c - fe X n) (fr X n - fe X n) = (if fr X n = n then .slice none 0 0 else .slice (some ⟨b, o + fr X n, none⟩) (n - fr X n) (c - fr X n)) := by
          unfold cutV
          by_cases hr : fr X n = n
          · rw [if_pos (by omega), if_pos hr]
          · rw [if_neg (by omega), if_neg hr, show o + fe X n + (fr X n - fe X n) = o + fr X n by omega, show n - fe X n - (fr X n - fe X n) = n - fr X n by omega, show c - fe X n - (fr X n - fe X n) = c - fr X n by omega]
        rw [hv] at h
        exact h
      rw [show ixV (n - fs X n) (fe X n - fs X n) = ((fe X n - fs X n : Nat) : Int) from if_pos (by omega)] at HE
      have hw1 : ∀ W, (Instr.slice 22 (.slice (some ⟨b, o + fs X n, none⟩) (n - fs X n) (c - fs X n)) none (some (.int .i64 ((fe X n - fs X n : Nat) : Int))) none).run Tryd.prog W = .ok (.slice (some ⟨b, o + fs X n, none⟩) (fe X n - fs X n) (c - fs X n)) W := slice_h _ _ _ _ _ (by omega) (by omega)
      have hw2 : ∀ W, (Instr.slice 22 (.slice (some ⟨b, o + fs X n, none⟩) (n - fs X n) (c - fs X n)) (some (.int .i64 ((fe X n - fs X n : Nat) : Int))) none none).run Tryd.prog W = .ok (.slice (some ⟨b, o + fe X n, none⟩) (n - fe X n) (c - fe X n)) W := fun W => by
        rw [slice_l _ _ _ _ _ (by omega) (by omega), show o + fs X n + (fe X n - fs X n) = o + fe X n by omega, show n - fs X n - (fe X n - fs X n) = n - fe X n by omega, show c - fs X n - (fe X n - fs X n) = c - fe X n by omega]
      have hokN : fr X n = n → Hid (CutOk X n (some ⟨b, o, none⟩) (some ⟨b, o + fs X n, none⟩) (fe X n - fs X n) none 0 0 c) := fun hrn => ⟨by omega, by omega, by
          rw [decide_eq_false (by omega)]; rfl, rfl, Nat.le_refl _, Nat.zero_le _, fun b' o' h => ⟨fun _ => by cases h; rfl, fun h => absurd h (by omega)⟩⟩
      have hokS : fr X n ≠ n → Hid (CutOk X n (some ⟨b, o, none⟩) (some ⟨b, o + fs X n, none⟩) (fe X n - fs X n) (some ⟨b, o + fr X n, none⟩) (n - fr X n) (c - fr X n) c) := fun hrn => ⟨by omega, by omega, by
          rw [decide_eq_false (by omega)]; rfl, by
          rw [decide_eq_false (by omega)]; rfl, by omega, by omega, fun b' o' h => ⟨fun _ => by cases h; rfl, fun _ => by cases h; rfl⟩⟩
      clear hI hc
      generalize fs X n = s at *
      generalize fe X n = f at *
      generalize fr X n = r at *
      by_cases hrn : r = n
      · have hok := hokN hrn
        rw [if_pos hrn] at HR
        clear hokN hokS
        go_enter Tryd.func13, Tryd.ntmps13
        go_wp2_with fail
        refine HT.out.mono ?_
        rintro e w1 ⟨rfl, hb1⟩
        go_wp2_with fail
        refine (HE w1 hb1).out.mono ?_
        rintro e w2 ⟨rfl, rfl⟩
        go_wp2
        go_region_with (go_at_call 14; refine (HR _ (by first | exact hb1 | exact hb1.drew)).out.mono ?_; rintro e w3 ⟨rfl, hb3⟩)
        all_goals
          go_wp2
          go_ret2
          exact ⟨_, _, _, _, _, _, rfl, hok, by first | exact hb1.trans (hb3.mono hb1.size) | exact hb1.drew.trans (hb3.mono hb1.size)⟩
      · have hok := hokS hrn
        rw [if_neg hrn] at HR
        clear hokN hokS
        go_enter Tryd.func13, Tryd.ntmps13
        go_wp2_with fail
        refine HT.out.mono ?_
        rintro e w1 ⟨rfl, hb1⟩
        go_wp2_with fail
        refine (HE w1 hb1).out.mono ?_
        rintro e w2 ⟨rfl, rfl⟩
        go_wp2
        go_region_with (go_at_call 14; refine (HR _ (by first | exact hb1 | exact hb1.drew)).out.mono ?_; rintro e w3 ⟨rfl, hb3⟩)
        all_goals
          go_wp2
          go_ret2
          exact ⟨_, _, _, _, _, _, rfl, hok, by first | exact hb1.trans (hb3.mono hb1.size) | exact hb1.drew.trans (hb3.mono hb1.size)⟩

theorem zzcut_any (p : Option Addr) (n c : Nat) (X : Nat → Int) (hX : Byt X) (w : World) (hI : In w p n X) (hnc : n ≤ c) (hbig : c ≤ 140737488355328) :
    Calls Tryd.prog 8 #[.slice p n c] w fun e w' => ∃ fa fl fc ra rl rc, e = .returned (.tuple #[.slice fa fl fc, .slice ra rl rc]) ∧ Hid (CutOk X n p fa fl ra rl rc c) ∧ Below w.heap.size w w' := by
  have H : Hid (Calls Tryd.prog 13 #[.slice p n c] w fun e w' => ∃ fa fl fc ra rl rc, e = .returned (.tuple #[.slice fa fl fc, .slice ra rl rc]) ∧ Hid (CutOk X n p fa fl ra rl rc c) ∧ Below w.heap.size w w') := cut_any p n c X hX w hI hnc hbig
  clear hI
  go_enter Tryd.func8, Tryd.ntmps8
  go_wp2_with fail
  refine Calls.mono H.out ?_
  rintro e w1 ⟨fa, fl, fc, ra, rl, rc, rfl, hok, hb1⟩
  go_wp2
  go_ret2
  exact ⟨_, _, _, _, _, _, rfl, hok, hb1⟩
end Go.Proofs.Qxb6601496aDoor

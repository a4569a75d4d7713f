/- Seat b6601496aD: FnCutFieldTokensCoverNonBlanks. -/
import Derived.Test.Qxb6601496aDoorC
namespace Go.Proofs.Qxb6601496aDoor
open Go.RowKit Go.PlainAid

theorem scan_shift2 {p : Nat → Bool} {n o i : Nat} (h : o + i ≤ n) : scan (fun j => p (o + j)) (n - o) i = scan p n (o + i) - o := by
  obtain ⟨g1, g2, g3, g4⟩ := scan_spec (p := p) h
  refine scan_uniq (by omega) (by omega) (fun j hj0 hj => g3 (o + j) (by omega) (by omega)) (fun hl => ?_)
  show p (o + (scan p n (o + i) - o)) = true
  rw [show o + (scan p n (o + i) - o) = scan p n (o + i) by omega]
  exact g4 (by omega)

/-- Does a run of bytes that are no blanks start at k? -/
def starts (X : Nat → Int) (k : Nat) : Bool := nb X k && (k == 0 || bl X (k - 1))
/-- How many start below k. -/
def runs (X : Nat → Int) : Nat → Nat
  | 0 => 0
  | k + 1 => runs X k + (if starts X k then 1 else 0)
theorem runs_le (X : Nat → Int) : ∀ k, runs X k ≤ k
  | 0 => Nat.le_refl _
  | k + 1 => by
    have := runs_le X k
    unfold runs
    split <;> omega
theorem runs_blank {X : Nat → Int} {a : Nat} : ∀ {b : Nat}, a ≤ b → (∀ i, a ≤ i → i < b → bl X i = true) → runs X b = runs X a
  | 0, h, _ => by rw [show a = 0 by omega]
  | b + 1, h, hall => by
    by_cases hab : a = b + 1
    · rw [hab]
    · have ih := runs_blank (b := b) (by omega) (fun i h1 h2 => hall i h1 (by omega))
      have hb := hall b (by omega) (by omega)
      have hs : starts X b = false := by simp [starts, nb, bl] at hb ⊢; simp [hb]
      show runs X b + (if starts X b then 1 else 0) = _
      rw [hs, ih]; simp
theorem runs_run {X : Nat → Int} {s : Nat} (h0 : s = 0 ∨ bl X (s - 1) = true) : ∀ {e : Nat}, s < e → (∀ i, s ≤ i → i < e → bl X i = false) → runs X e = runs X s + 1
  | 0, h, _ => absurd h (Nat.not_lt_zero _)
  | e + 1, h, hall => by
    by_cases hse : s = e
    · subst hse
      have hb := hall s (Nat.le_refl _) (by omega)
      have hs : starts X s = true := by
        rcases h0 with h0 | h0
        · simp [starts, nb, bl, h0] at hb ⊢; exact hb
        · simp [starts, nb, bl] at hb h0 ⊢; simp [hb, h0]
      show runs X s + (if starts X s then 1 else 0) = _
      rw [hs]; simp
    · have ih := runs_run h0 (e := e) (by omega) (fun i h1 h2 => hall i h1 (by omega))
      have hb := hall (e - 1) (by omega) (by omega)
      have hs : starts X e = false := by
        have he : (e == 0) = false := by simp; omega
        simp [starts, he, hb]
      show runs X e + (if starts X e then 1 else 0) = _
      rw [hs, ih]; simp

/-- Between two cuts: the law stands at j, the rest begins at o. -/
def Tok (X : Nat → Int) (n j o : Nat) : Prop := j ≤ o ∧ o ≤ n ∧ (∀ i, j ≤ i → i < o → bl X i = true) ∧ (j = 0 ∨ j = n ∨ bl X j = true)
theorem nb_bl {X : Nat → Int} {i : Nat} (h : nb X i = false) : bl X i = true := by simpa [nb, bl] using h
theorem nb_bl' {X : Nat → Int} {i : Nat} (h : nb X i = true) : bl X i = false := by simpa [nb, bl] using h

theorem Tok.fin {X : Nat → Int} {n j o : Nat} (h : Tok X n j o) (hS : ∀ i, o ≤ i → i < n → bl X i = true) : runs X n = runs X j ∧ ∀ i, j ≤ i → i < n → bl X i = true := by
  obtain ⟨h1, h2, h3, _⟩ := h
  have hall : ∀ i, j ≤ i → i < n → bl X i = true := fun i hi hn => by
    rcases Nat.lt_or_ge i o with h | h
    · exact h3 i hi h
    · exact hS i h hn
  exact ⟨runs_blank (by omega) hall, hall⟩

theorem Tok.step {X : Nat → Int} {n j o S E R : Nat} (h : Tok X n j o) (hS : S = scan (nb X) n o) (hSn : S < n) (hE : E = scan (bl X) n S) (hR : R = scan (nb X) n E) :
    Tok X n E R ∧ runs X E = runs X j + 1 ∧ o ≤ S ∧ S < E ∧ E ≤ R ∧ R ≤ n ∧ (∀ i, j ≤ i → i < S → bl X i = true) ∧ bl X S = false ∧ (S = 0 ∨ bl X (S - 1) = true) ∧ (E < n → bl X E = true) := by
  obtain ⟨h1, h2, h3, h4⟩ := h
  obtain ⟨s1, s2, s3, s4⟩ := scan_spec (p := nb X) h2
  rw [← hS] at s1 s2 s3 s4
  obtain ⟨e1, e2, e3, e4⟩ := scan_spec (p := bl X) (Nat.le_of_lt hSn)
  rw [← hE] at e1 e2 e3 e4
  obtain ⟨r1, r2, r3, r4⟩ := scan_spec (p := nb X) e2
  rw [← hR] at r1 r2 r3 r4
  have hbS : bl X S = false := nb_bl' (s4 hSn)
  have hall : ∀ i, j ≤ i → i < S → bl X i = true := fun i hi hn => by
    rcases Nat.lt_or_ge i o with h | h
    · exact h3 i hi h
    · exact nb_bl (s3 i h hn)
  have hSE : S < E := by
    rcases Nat.lt_or_ge S E with h | h
    · exact h
    · exfalso
      have : E = S := by omega
      have h5 := e4 (by omega)
      rw [this, hbS] at h5; cases h5
  have hS1 : S = 0 ∨ bl X (S - 1) = true := by
    by_cases h0 : S = 0
    · exact Or.inl h0
    · right
      by_cases hj : j ≤ S - 1
      · exact hall _ hj (by omega)
      · have hjS : j = S := by omega
        rcases h4 with h4 | h4 | h4
        · omega
        · omega
        · rw [hjS, hbS] at h4; cases h4
  have hrun := runs_run hS1 hSE e3
  rw [runs_blank (by omega) hall] at hrun
  exact ⟨⟨r1, r2, fun i hi hn => nb_bl (r3 i hi hn), by
    by_cases hEn : E < n
    · exact Or.inr (Or.inr (e4 hEn))
    · exact Or.inr (Or.inl (by omega))⟩, hrun, s1, hSE, r1, r2, hall, hbS, hS1, e4⟩

theorem In.of_at {w : World} {p : Option Addr} {h n : Nat} {X : Nat → Int} (hA : At w p h n X) : In w p n X := fun hn => by
  obtain ⟨h1, h2, h3⟩ := hA hn
  exact ⟨h, 0, h1, h2, fun i hi => by rw [Nat.zero_add]; exact h3 i hi⟩

set_option maxHeartbeats 4000000 in
set_option maxRecDepth 100000 in
theorem tokens_walk (p : Option Addr) (n c : Nat) (X : Nat → Int) (hX : Byt X) (w : World) (hI : In w p n X) (hn : n ≤ 140737488355328) :
    Calls Tryd.prog 5 #[.slice p n c] w fun e w' => e = .returned (.bool true) ∧ Below w.heap.size w w' := by
  have HI : Hid (In w p n X) := hI
  have HX : Hid (Byt X) := hX
  clear hI hX
  go_enter Tryd.func5, Tryd.ntmps5
  go_wp2_with fail
  refine (zzBytes12_any p n c w hn).mono ?_
  rintro e w1 ⟨rfl | ⟨rfl, hsm0⟩, rfl⟩
  · go_wp2
    go_ret
    exact ⟨rfl, Below.refl _ _⟩
  by_cases hsm : n ≤ 4096
  case neg =>
    go_wp2
    go_ret
    exact ⟨rfl, Below.refl _ _⟩
  go_wp2_with fail
  refine (clone_any p n c X _ HI.out hsm0).mono ?_
  rintro e w2 ⟨q, rfl, hat, hb2⟩
  clear HI
  go_wp2
  go_loop [3, 4] (fun rv i => ∃ k : Nat, k ≤ n ∧ i = .int .i64 k ∧ rv = .int .i64 (runs X k : Nat)) (fun _ i => n - (intOf i).toNat)
  case atStart => exact ⟨0, Nat.zero_le _, rfl, rfl⟩
  case round =>
    obtain ⟨k, hk, rfl, rfl⟩ := hrel
    by_cases hlt : k < n
    · obtain ⟨hq, hl, hc0⟩ := hat.out (by omega)
      have hc := hc0 k hlt
      have hrk := runs_le X k
      cases hbk : blank (X k) with
      | true =>
        have HR : Hid (runs X (k + 1) = runs X k) := by
          show runs X k + (if starts X k then 1 else 0) = runs X k
          rw [show starts X k = false by simp [starts, nb, hbk]]; simp
        clear hc0
        subst hq
        go_wp2_with fail
        refine (blank_any _ _).mono ?_
        rintro e w4 ⟨rfl, rfl⟩
        go_wp2
        go_round
        case rel => exact ⟨k + 1, by omega, by go_num, by rw [HR.out]⟩
        case measure => simp [intOf]; omega
      | false =>
        cases k with
        | zero =>
          have HR : Hid (runs X (0 + 1) = runs X 0 + 1) := by
            show runs X 0 + (if starts X 0 then 1 else 0) = runs X 0 + 1
            rw [show starts X 0 = true by simp [starts, nb, hbk]]; simp
          clear hc0
          subst hq
          go_wp2_with fail
          refine (blank_any _ _).mono ?_
          rintro e w4 ⟨rfl, rfl⟩
          go_wp2
          go_round
          case rel => exact ⟨0 + 1, by omega, by go_num, by rw [HR.out]; go_num⟩
          case measure => simp [intOf]; omega
        | succ m =>
          have hcm := hc0 m (by omega)
          cases hbm : blank (X m) with
          | true =>
            have HR : Hid (runs X (m + 1 + 1) = runs X (m + 1) + 1) := by
              show runs X (m + 1) + (if starts X (m + 1) then 1 else 0) = runs X (m + 1) + 1
              rw [show starts X (m + 1) = true by simp [starts, nb, bl, hbk, hbm]]; simp
            clear hc0
            subst hq
            go_wp2_with fail
            refine (blank_any _ _).mono ?_
            rintro e w4 ⟨rfl, rfl⟩
            go_wp2_with fail
            refine (blank_any _ _).mono ?_
            rintro e w4 ⟨rfl, rfl⟩
            go_wp2
            go_round
            case rel => exact ⟨m + 1 + 1, by omega, by go_num, by rw [HR.out]; go_num⟩
            case measure => simp [intOf]; omega
          | false =>
            have HR : Hid (runs X (m + 1 + 1) = runs X (m + 1)) := by
              show runs X (m + 1) + (if starts X (m + 1) then 1 else 0) = runs X (m + 1)
              rw [show starts X (m + 1) = false by simp [starts, nb, bl, hbk, hbm]]; simp
            clear hc0
            subst hq
            go_wp2_with fail
            refine (blank_any _ _).mono ?_
            rintro e w4 ⟨rfl, rfl⟩
            go_wp2_with fail
            refine (blank_any _ _).mono ?_
            rintro e w4 ⟨rfl, rfl⟩
            go_wp2
            go_round
            case rel => exact ⟨m + 1 + 1, by omega, by go_num, by rw [HR.out]⟩
            case measure => simp [intOf]; omega
    · obtain rfl : n = k := by omega
      go_wp2
      clear hlt hk
      go_loopw [5, 6, 7] (fun jv cv cu wr => ∃ (o j : Nat) (pc : Option Addr) (cc : Nat), j ≤ o ∧ o ≤ n ∧ n - o ≤ cc ∧ cc ≤ n ∧ jv = .int .i64 j ∧ cv = .int .i64 (runs X j : Nat) ∧ cu = .slice pc (n - o) cc ∧ Hid (Tok X n j o ∧ (o < n → pc = some ⟨w1.heap.size, o, none⟩)) ∧ Below w2.heap.size w2 wr) (fun jv _ _ _ => n - (intOf jv).toNat)
      case atStart => exact ⟨0, 0, q, n, Nat.le_refl _, Nat.zero_le _, by omega, Nat.le_refl _, rfl, rfl, rfl, ⟨⟨Nat.le_refl _, Nat.zero_le _, fun i h1 h2 => absurd h2 (by omega), Or.inl rfl⟩, fun ho => (hat.out ho).1⟩, Below.refl _ _⟩
      case round =>
        obtain ⟨o, j, pc, cc, hjo, hon, hcc, hccn, rfl, rfl, rfl, HT, hbel⟩ := hrel
        have HATR : Hid (At wr q w1.heap.size n X) := hat.out.below hbel (Nat.le_refl _)
        have hrj := runs_le X j
        by_cases ho : o < n
        · have hpc := HT.out.2 ho
          subst hpc
          have hin : In wr (some ⟨w1.heap.size, o, none⟩) (n - o) (fun i => X (o + i)) := fun hp => by
            obtain ⟨_, hl, hc0⟩ := HATR.out (by omega)
            exact ⟨_, _, rfl, hl, fun i hi => hc0 _ (by omega)⟩
          have hno : ((n - o : Nat) : Int) > 0 := by omega
          have hno2 : 0 < n - o := by omega
          have HCUT : Hid (Calls Tryd.prog 8 #[.slice (some ⟨w1.heap.size, o, none⟩) (n - o) cc] wr fun e w' => ∃ fa fl fc ra rl rc, e = .returned (.tuple #[.slice fa fl fc, .slice ra rl rc]) ∧ Hid (CutOk (fun i => X (o + i)) (n - o) (some ⟨w1.heap.size, o, none⟩) fa fl ra rl rc cc) ∧ Below wr.heap.size wr w') := zzcut_any (some ⟨w1.heap.size, o, none⟩) (n - o) cc (fun i => X (o + i)) (fun i => HX.out _) wr hin hcc (by omega)
          have hS : fs (fun i => X (o + i)) (n - o) = scan (nb X) n o - o := scan_shift2 (p := nb X) (i := 0) (by omega)
          obtain ⟨s1, s2, s3, s4⟩ := scan_spec (p := nb X) (n := n) (i := o) hon
          obtain ⟨S, HSdef⟩ : ∃ S, S = scan (nb X) n o := ⟨_, rfl⟩
          rw [← HSdef] at hS s1 s2 s3 s4
          clear hin
          go_wp2_with fail
          refine Calls.mono HCUT.out ?_
          rintro e w3 ⟨fa, fl, fc, ra, rl, rc, rfl, hok, hb3⟩
          have hbel3 : Below w2.heap.size w2 w3 := hbel.trans (hb3.mono hbel.size)
          have HAT3 : Hid (At w3 q w1.heap.size n X) := hat.out.below hbel3 (Nat.le_refl _)
          clear HCUT HATR hbel hb3
          obtain ⟨hfl, hrl, hfa, hra, hrlc, hrcc, hpl⟩ := hok.out
          clear hok
          by_cases hSn : S < n
          · obtain ⟨E, HEdef⟩ : ∃ E, E = scan (bl X) n S := ⟨_, rfl⟩
            obtain ⟨R, HRdef⟩ : ∃ R, R = scan (nb X) n E := ⟨_, rfl⟩
            have hE : fe (fun i => X (o + i)) (n - o) = E - o := by
              show scan (bl (fun i => X (o + i))) (n - o) (fs (fun i => X (o + i)) (n - o)) = E - o
              rw [hS, HEdef]
              have := scan_shift2 (p := bl X) (n := n) (o := o) (i := S - o) (by omega)
              rw [show o + (S - o) = S by omega] at this
              exact this
            obtain ⟨htok, hrun, q1, q2, q3, q4, q5, q6, q7, q8⟩ := HT.out.1.step HSdef hSn HEdef HRdef
            have hR : fr (fun i => X (o + i)) (n - o) = R - o := by
              show scan (nb (fun i => X (o + i))) (n - o) (fe (fun i => X (o + i)) (n - o)) = R - o
              rw [hE, HRdef]
              have := scan_shift2 (p := nb X) (n := n) (o := o) (i := E - o) (by omega)
              rw [show o + (E - o) = E by omega] at this
              exact this
            rw [hE, hS] at hfl
            rw [hR] at hrl
            obtain ⟨hpf, hpr⟩ := hpl _ _ rfl
            rw [hS, show o + (S - o) = S by omega] at hpf
            rw [hR, show o + (R - o) = R by omega] at hpr
            have hfa' := hpf (by omega)
            obtain rfl : E = S + fl := by omega
            obtain rfl : rl = n - R := by omega
            have HTOK : Hid (Tok X n (S + fl) R ∧ (R < n → ra = some ⟨w1.heap.size, R, none⟩)) := ⟨htok, fun hh => hpr (by omega)⟩
            have HRUN : Hid (runs X (S + fl) = runs X j + 1) := hrun
            have HJS : Hid (∀ i, j ≤ i → i < S → bl X i = true) := q5
            have HBS : Hid (bl X S = false) := q6
            have HS1 : Hid (S = 0 ∨ bl X (S - 1) = true) := q7
            have HBE : Hid (S + fl < n → bl X (S + fl) = true) := q8
            have hfl0 : (0 : Int) < (fl : Int) := by omega
            have hfl1 : 0 < fl := by omega
            have hfl2 : ((fl : Int) == 0) = false := by simp; omega
            have hge : decide (((n - o : Nat) : Int) ≤ ((n - R : Nat) : Int)) = false := by simp; omega
            have hq := (HAT3.out (by omega)).1
            subst hq
            subst hfa'
            clear htok hrun hpf hpr hpl hE hR hS HSdef HEdef HRdef s1 s2 s3 s4 q5 q6 q7 q8 HT hfa hra hfl hrl
            go_wp2
            go_loop [5] (fun jv => ∃ k : Nat, j ≤ k ∧ k ≤ S ∧ jv = .int .i64 k) (fun i => S - (intOf i).toNat)
            case atStart => exact ⟨j, Nat.le_refl _, by omega, rfl⟩
            case round =>
              obtain ⟨k, hk0, hk, rfl⟩ := hrel
              obtain ⟨_, hl, hc0⟩ := HAT3.out (by omega)
              have hc := hc0 k (by omega)
              by_cases hlt : k < S
              · have hbk : blank (X k) = true := HJS.out k hk0 hlt
                have hkn : (k : Int) < (n : Int) := by omega
                clear hc0
                go_wp2_with fail
                refine (blank_any _ _).mono ?_
                rintro e w4 ⟨rfl, rfl⟩
                go_wp2
                go_round
                case rel => exact ⟨k + 1, by omega, by omega, by go_num⟩
                case measure => simp [intOf]; omega
              · obtain rfl : S = k := by omega
                have hbk : blank (X S) = false := HBS.out
                have hkn : (S : Int) < (n : Int) := by omega
                cases S with
                | zero =>
                  simp only [Nat.zero_add] at HTOK HRUN HBE
                  clear hc0
                  go_wp2_with fail
                  refine (blank_any _ _).mono ?_
                  rintro e w4 ⟨rfl, rfl⟩
                  go_wp2
                  go_loopw [5, 10] (fun jv tv wr => ∃ t : Nat, t ≤ fl ∧ jv = .int .i64 (t : Nat) ∧ tv = .int .i64 t ∧ Below w2.heap.size w2 wr) (fun _ tv _ => fl - (intOf tv).toNat)
                  case atStart => exact ⟨0, Nat.zero_le _, rfl, rfl, hbel3⟩
                  case round =>
                    obtain ⟨t, ht, rfl, rfl, hbel4⟩ := hrel
                    have HAT4 : Hid (At wr (some ⟨w1.heap.size, 0, none⟩) w1.heap.size n X) := hat.out.below hbel4 (Nat.le_refl _)
                    by_cases hlt : t < fl
                    · obtain ⟨_, hl, hc0⟩ := HAT4.out (by omega)
                      have hc := hc0 (t) (by omega)
                      have heq : (X (t) == X (t)) = true := by simp
                      have hg : decide ((n : Int) ≤ ((t : Nat) : Int)) = false := by simp; omega
                      have hi1 : ((t : Nat) : Int) < (n : Int) := by omega
                      have hg2 : decide (n ≤ t) = false := by simp; omega
                      clear hc0 HAT4
                      go_wp2
                      go_quiet (fail)
                      go_wp2
                      go_roundw
                      case rel => exact ⟨t + 1, by omega, by go_num, by go_num, below_drewN hbel4 _⟩
                      case measure => simp [intOf]; omega
                    · obtain rfl : t = fl := by omega
                      by_cases hEn : t < n
                      · obtain ⟨_, hl, hc0⟩ := HAT4.out (by omega)
                        have hc := hc0 (t) (by omega)
                        have hbE : blank (X (t)) = true := HBE.out hEn
                        clear hc0 HAT4
                        go_wp2_with fail
                        refine (blank_any _ _).mono ?_
                        rintro e w5 ⟨rfl, rfl⟩
                        go_wp2
                        go_roundw
                        case rel => exact ⟨R, t, ra, rc, by omega, by omega, by omega, by omega, rfl, by rw [HRUN.out]; go_num, rfl, HTOK, hbel4⟩
                        case measure => simp [intOf]; omega
                      · clear HAT4
                        go_wp2
                        go_roundw
                        case rel => exact ⟨R, t, ra, rc, by omega, by omega, by omega, by omega, rfl, by rw [HRUN.out]; go_num, rfl, HTOK, hbel4⟩
                        case measure => simp [intOf]; omega
                | succ m =>
                  have hcm := hc0 m (by omega)
                  have hbm : blank (X m) = true := by
                    rcases HS1.out with h | h
                    · cases h
                    · exact h
                  have hmn : ((m + 1 : Nat) : Int) > 0 := by omega
                  clear hc0
                  go_wp2_with fail
                  refine (blank_any _ _).mono ?_
                  rintro e w4 ⟨rfl, rfl⟩
                  go_wp2_with fail
                  refine (blank_any _ _).mono ?_
                  rintro e w4 ⟨rfl, rfl⟩
                  go_wp2
                  go_loopw [5, 10] (fun jv tv wr => ∃ t : Nat, t ≤ fl ∧ jv = .int .i64 (m + 1 + t : Nat) ∧ tv = .int .i64 t ∧ Below w2.heap.size w2 wr) (fun _ tv _ => fl - (intOf tv).toNat)
                  case atStart => exact ⟨0, Nat.zero_le _, rfl, rfl, hbel3⟩
                  case round =>
                    obtain ⟨t, ht, rfl, rfl, hbel4⟩ := hrel
                    have HAT4 : Hid (At wr (some ⟨w1.heap.size, 0, none⟩) w1.heap.size n X) := hat.out.below hbel4 (Nat.le_refl _)
                    by_cases hlt : t < fl
                    · obtain ⟨_, hl, hc0⟩ := HAT4.out (by omega)
                      have hc := hc0 (m + 1 + t) (by omega)
                      have heq : (X (m + 1 + t) == X (m + 1 + t)) = true := by simp
                      have hg : decide ((n : Int) ≤ ((m + 1 + t : Nat) : Int)) = false := by simp; omega
                      have hi1 : ((m + 1 + t : Nat) : Int) < (n : Int) := by omega
                      have hg2 : decide ((n : Int) ≤ (m : Int) + 1 + (t : Int)) = false := by simp; omega
                      have hi2 : (m : Int) + 1 + (t : Int) < (n : Int) := by omega
                      clear hc0 HAT4
                      go_wp2
                      go_quiet (fail)
                      go_wp2
                      go_roundw
                      case rel => exact ⟨t + 1, by omega, by go_num, by go_num, below_drewN hbel4 _⟩
                      case measure => simp [intOf]; omega
                    · obtain rfl : t = fl := by omega
                      by_cases hEn : m + 1 + t < n
                      · obtain ⟨_, hl, hc0⟩ := HAT4.out (by omega)
                        have hc := hc0 (m + 1 + t) (by omega)
                        have hbE : blank (X (m + 1 + t)) = true := HBE.out hEn
                        clear hc0 HAT4
                        go_wp2_with fail
                        refine (blank_any _ _).mono ?_
                        rintro e w5 ⟨rfl, rfl⟩
                        go_wp2
                        go_roundw
                        case rel => exact ⟨R, m + 1 + t, ra, rc, by omega, by omega, by omega, by omega, rfl, by rw [HRUN.out]; go_num, rfl, HTOK, hbel4⟩
                        case measure => simp [intOf]; omega
                      · clear HAT4
                        go_wp2
                        go_roundw
                        case rel => exact ⟨R, m + 1 + t, ra, rc, by omega, by omega, by omega, by omega, rfl, by rw [HRUN.out]; go_num, rfl, HTOK, hbel4⟩
                        case measure => simp [intOf]; omega
          · have hSn' : S = n := by omega
            have hfl0 : fl = 0 := by
              have := fe_spec (fun i => X (o + i)) (n - o)
              rw [hfl]; omega
            have FIN : Hid (runs X n = runs X j ∧ ∀ i, j ≤ i → i < n → bl X i = true) := HT.out.1.fin (fun i h1 h2 => nb_bl (s3 i h1 (by omega)))
            have HATX : Hid (At w3 q w1.heap.size n X) := HAT3
            have HBX : Below w1.heap.size w1 w3 := hb2.trans (hbel3.mono hb2.size)
            subst hfl0
            clear HSdef hS s1 s2 s3 s4 hfa hra hpl hfl hrl HT HAT3 hbel3
            obtain ⟨hfr, hfb⟩ := FIN.out
            have HFR : Hid (runs X n = runs X j) := hfr
            have HFB : Hid (∀ i, j ≤ i → i < n → bl X i = true) := hfb
            clear hfr hfb FIN
            go_wp2
            go_loop [5] (fun iv => ∃ k : Nat, j ≤ k ∧ k ≤ n ∧ iv = .int .i64 k) (fun i => n - (intOf i).toNat)
            case atStart => exact ⟨j, Nat.le_refl _, by omega, rfl⟩
            case round =>
              obtain ⟨k, hk0, hk, rfl⟩ := hrel
              by_cases hlt : k < n
              · obtain ⟨hq, hl, hc0⟩ := HATX.out (by omega)
                have hc := hc0 k hlt
                have hbk : blank (X k) = true := HFB.out k hk0 hlt
                clear hc0
                subst hq
                go_wp2_with fail
                refine (blank_any _ _).mono ?_
                rintro e w4 ⟨rfl, rfl⟩
                go_wp2
                go_round
                case rel => exact ⟨k + 1, by omega, by omega, by go_num⟩
                case measure => simp [intOf]; omega
              · have hend : (((runs X j : Nat) : Int) == ((runs X n : Nat) : Int)) = true := by rw [HFR.out]; simp
                go_wp2
                go_ret
                exact ⟨rfl, HBX⟩
        · have hon' : o = n := by omega
          have FIN : Hid (runs X n = runs X j ∧ ∀ i, j ≤ i → i < n → bl X i = true) := HT.out.1.fin (fun i h1 h2 => absurd h2 (by omega))
          have HATX : Hid (At wr q w1.heap.size n X) := HATR
          have HBX : Below w1.heap.size w1 wr := hb2.trans (hbel.mono hb2.size)
          have hno : n - o = 0 := by omega
          rw [hno]
          clear HT HATR hbel hno
          obtain ⟨hfr, hfb⟩ := FIN.out
          have HFR : Hid (runs X n = runs X j) := hfr
          have HFB : Hid (∀ i, j ≤ i → i < n → bl X i = true) := hfb
          clear hfr hfb FIN
          go_wp2
          go_loop [5] (fun iv => ∃ k : Nat, j ≤ k ∧ k ≤ n ∧ iv = .int .i64 k) (fun i => n - (intOf i).toNat)
          case atStart => exact ⟨j, Nat.le_refl _, by omega, rfl⟩
          case round =>
            obtain ⟨k, hk0, hk, rfl⟩ := hrel
            by_cases hlt : k < n
            · obtain ⟨hq, hl, hc0⟩ := HATX.out (by omega)
              have hc := hc0 k hlt
              have hbk : blank (X k) = true := HFB.out k hk0 hlt
              clear hc0
              subst hq
              go_wp2_with fail
              refine (blank_any _ _).mono ?_
              rintro e w4 ⟨rfl, rfl⟩
              go_wp2
              go_round
              case rel => exact ⟨k + 1, by omega, by omega, by go_num⟩
              case measure => simp [intOf]; omega
            · have hend : (((runs X j : Nat) : Int) == ((runs X n : Nat) : Int)) = true := by rw [HFR.out]; simp
              go_wp2
              go_ret
              exact ⟨rfl, HBX⟩
end Go.Proofs.Qxb6601496aDoor

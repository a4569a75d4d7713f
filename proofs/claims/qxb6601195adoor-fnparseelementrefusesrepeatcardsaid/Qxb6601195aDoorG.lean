/- Plain laws of seat b6601195aD: where the pieces of a line stand. No Go in sight. -/
import Derived.Test.Qxb6601195aDoorF
namespace Go.Proofs.Qxb6601195aDoor
open Go.RowKit Go.PlainAid

def Letters (n : List UInt8) : Prop := ∀ c ∈ n, (97 ≤ c.toNat ∧ c.toNat ≤ 122) ∨ (65 ≤ c.toNat ∧ c.toNat ≤ 90)
def Blanks (n : List UInt8) : Prop := ∀ c ∈ n, c = 32 ∨ c = 9

theorem app_toList (a b : ByteArray) : (a ++ b).data.toList = a.data.toList ++ b.data.toList := by simp [ByteArray.data_append]

theorem At.of_list {s : ByteArray} {l : List UInt8} (h : s.data.toList = l) : At s 0 l := by
  subst h
  refine ⟨by simp, fun k c hk => ?_⟩
  rw [Nat.zero_add]
  exact bt_list s.data.toList k c hk

theorem At.mem {s : ByteArray} {i : Nat} {l : List UInt8} (h : At s i l) {k : Nat} (h1 : i ≤ k) (h2 : k < i + l.length) : ∃ c ∈ l, bt s k = (c.toNat : Int) := by
  have hk : k - i < l.length := by omega
  refine ⟨l[k - i], List.getElem_mem hk, ?_⟩
  have := h.2 (k - i) l[k - i] (List.getElem?_eq_getElem hk)
  rwa [show i + (k - i) = k by omega] at this

theorem blanks_bl {c : UInt8} (h : c = 32 ∨ c = 9) : blB (c.toNat : Int) = true := by
  rcases h with rfl | rfl <;> decide

theorem skip_of {s : ByteArray} {i : Nat} {bl : List UInt8} {c : UInt8} {t : List UInt8} (h : At s i (bl ++ c :: t)) (hbl : Blanks bl) (hc : blB (c.toNat : Int) = false) : Skip s i (i + bl.length) := by
  refine ⟨by omega, h.left.1, fun k h1 h2 => ?_, fun _ => ?_⟩
  · obtain ⟨x, hx, e⟩ := h.left.mem h1 h2
    rw [e]; exact blanks_bl (hbl x hx)
  · rw [h.right.head.2]; exact hc

theorem skip_end {s : ByteArray} {i : Nat} {bl : List UInt8} (h : At s i bl) (hbl : Blanks bl) (he : i + bl.length = s.size) : Skip s i (i + bl.length) := by
  refine ⟨by omega, h.1, fun k h1 h2 => ?_, fun h' => by omega⟩
  obtain ⟨x, hx, e⟩ := h.mem h1 h2
  rw [e]; exact blanks_bl (hbl x hx)

theorem extract_at {s : ByteArray} {i : Nat} {l : List UInt8} (h : At s i l) : (s.extract i (i + l.length)).data.toList = l := by
  rw [Lib.extract_data]
  have hs := h.1
  have hsz : s.data.toList.length = s.size := by simp
  apply List.ext_getElem?
  intro k
  rcases Nat.lt_or_ge k l.length with hk | hk
  · rw [List.getElem?_take_of_lt (by omega), List.getElem?_drop, List.getElem?_eq_getElem hk, List.getElem?_eq_getElem (by omega)]
    have h1 := h.2 k l[k] (List.getElem?_eq_getElem hk)
    have h2 := bt_list s.data.toList (i + k) _ (List.getElem?_eq_getElem (by omega))
    rw [show (⟨s.data.toList.toArray⟩ : ByteArray) = s from rfl] at h2
    rw [h1] at h2
    exact congrArg some (UInt8.toNat_inj.1 (by omega))
  · rw [List.getElem?_eq_none (by rw [List.length_take]; omega), List.getElem?_eq_none hk]

/-- The bytes of NAME="VALUE". -/
def pairOf (n : List UInt8) (all : Bool) (l : List UInt8) : List UInt8 := n ++ 61 :: 34 :: (escs all l ++ [34])
theorem pairOf_len (n : List UInt8) (all : Bool) (l : List UInt8) : (pairOf n all l).length = n.length + 1 + (escs all l).length + 2 := by
  simp [pairOf]; omega

theorem letter_nb {c : UInt8} (h : (97 ≤ c.toNat ∧ c.toNat ≤ 122) ∨ (65 ≤ c.toNat ∧ c.toNat ≤ 90)) : blB (c.toNat : Int) = false := by
  simp [blB]; omega

theorem pair_of {s : ByteArray} {i m : Nat} {bl n l : List UInt8} {all isF isP : Bool} (h : At s i (bl ++ pairOf n all l)) (hbl : Blanks bl) (hn : Letters n) (hne : n ≠ [])
    (hF : Lib.equalFold n [102, 111, 114] = isF) (hP : Lib.equalFold n [112, 114, 111, 116, 111] = isP) (hsk : Skip s (i + bl.length + (pairOf n all l).length) m) :
    IsPair s i (i + bl.length) (i + bl.length + n.length) (i + bl.length + (pairOf n all l).length) m l isF isP := by
  have hr : At s (i + bl.length) (n ++ 61 :: 34 :: (escs all l ++ [34])) := h.right
  have hx := extract_at hr.left
  refine ⟨?_, ?_, ?_, hr.right.head, ⟨all, hr.right.tail, ?_⟩, hsk, by rw [hx]; exact hF, by rw [hx]; exact hP⟩
  · cases n with
    | nil => exact absurd rfl hne
    | cons c n => exact skip_of (c := c) (t := n ++ 61 :: 34 :: (escs all l ++ [34])) (by simpa [pairOf] using h) hbl (letter_nb (hn c (by simp)))
  · have := List.length_pos_iff.2 hne
    omega
  · intro k h1 h2
    obtain ⟨x, hx, e⟩ := hr.left.mem h1 h2
    have := hn x hx
    rw [e]; omega
  · rw [pairOf_len]; omega

theorem case3 {m : List UInt8} {x y z : UInt8} (h : CaseOf [x, y, z] m) : ∃ a b c, m = [a, b, c] ∧ (a = x ∨ a = x - 32) ∧ (b = y ∨ b = y - 32) ∧ (c = z ∨ c = z - 32) := by
  obtain ⟨hl, hk⟩ := h
  match m, hl with
  | [a, b, c], _ =>
    refine ⟨a, b, c, rfl, ?_, ?_, ?_⟩
    · have := hk 0 x rfl; simp at this; rcases this with h | h; exact Or.inl h; exact Or.inr h.2.2
    · have := hk 1 y rfl; simp at this; rcases this with h | h; exact Or.inl h; exact Or.inr h.2.2
    · have := hk 2 z rfl; simp at this; rcases this with h | h; exact Or.inl h; exact Or.inr h.2.2
theorem case5 {m : List UInt8} {x y z u v : UInt8} (h : CaseOf [x, y, z, u, v] m) : ∃ a b c d e, m = [a, b, c, d, e] ∧ (a = x ∨ a = x - 32) ∧ (b = y ∨ b = y - 32) ∧ (c = z ∨ c = z - 32) ∧ (d = u ∨ d = u - 32) ∧ (e = v ∨ e = v - 32) := by
  obtain ⟨hl, hk⟩ := h
  match m, hl with
  | [a, b, c, d, e], _ =>
    refine ⟨a, b, c, d, e, rfl, ?_, ?_, ?_, ?_, ?_⟩
    · have := hk 0 x rfl; simp at this; rcases this with h | h; exact Or.inl h; exact Or.inr h.2.2
    · have := hk 1 y rfl; simp at this; rcases this with h | h; exact Or.inl h; exact Or.inr h.2.2
    · have := hk 2 z rfl; simp at this; rcases this with h | h; exact Or.inl h; exact Or.inr h.2.2
    · have := hk 3 u rfl; simp at this; rcases this with h | h; exact Or.inl h; exact Or.inr h.2.2
    · have := hk 4 v rfl; simp at this; rcases this with h | h; exact Or.inl h; exact Or.inr h.2.2

/-- A name of ours: its letters, and how it folds. -/
structure Named (n : List UInt8) (isF : Bool) : Prop where
  ne : n ≠ []
  letters : Letters n
  hF : Lib.equalFold n [102, 111, 114] = isF
  hP : Lib.equalFold n [112, 114, 111, 116, 111] = !isF

theorem letters_dec (n : List UInt8) (h : n.all (fun c => decide ((97 ≤ c.toNat ∧ c.toNat ≤ 122) ∨ (65 ≤ c.toNat ∧ c.toNat ≤ 90))) = true) : Letters n := by
  intro c hc
  simpa using List.all_eq_true.1 h c hc

theorem for_name {m : List UInt8} (h : CaseOf [102, 111, 114] m) : Named m true := by
  obtain ⟨a, b, c, rfl, h1, h2, h3⟩ := case3 h
  rcases h1 with rfl | rfl <;> rcases h2 with rfl | rfl <;> rcases h3 with rfl | rfl <;> exact ⟨by decide, letters_dec _ (by decide), by decide, by decide⟩
theorem proto_name {m : List UInt8} (h : CaseOf [112, 114, 111, 116, 111] m) : Named m false := by
  obtain ⟨a, b, c, d, e, rfl, h1, h2, h3, h4, h5⟩ := case5 h
  rcases h1 with rfl | rfl <;> rcases h2 with rfl | rfl <;> rcases h3 with rfl | rfl <;> rcases h4 with rfl | rfl <;> rcases h5 with rfl | rfl <;> exact ⟨by decide, letters_dec _ (by decide), by decide, by decide⟩

/-! ### THE FIRST LAW: the states of the loop at a line of two pairs -/
theorem rt_states (s : ByteArray) (bl1 n1 l1 bl2 bl3 n2 l2 bl4 rest : List UInt8) (all f1 : Bool) (h : s.data.toList = bl1 ++ pairOf n1 all l1 ++ (bl2 ++ 59 :: (bl3 ++ pairOf n2 all l2 ++ (bl4 ++ 44 :: rest))))
    (b1 : Blanks bl1) (b2 : Blanks bl2) (b3 : Blanks bl3) (b4 : Blanks bl4) (hn1 : Named n1 f1) (hn2 : Named n2 (!f1)) :
    ∃ I : PSt → Prop, I ⟨0, 0, false, false, ⟨#[]⟩, ⟨#[]⟩⟩ ∧ ∀ st, I st → st.i ≤ s.size → st.pairs ≤ st.i → Step s I (fun node proto i pairs ok => node = ⟨(if f1 then l1 else l2).toArray⟩ ∧ proto = ⟨(if f1 then l2 else l1).toArray⟩ ∧ i = bl1.length + (pairOf n1 all l1).length + bl2.length + 1 + bl3.length + (pairOf n2 all l2).length + bl4.length ∧ pairs = 2 ∧ ok = true) st := by
  have A0 : At s 0 (bl1 ++ pairOf n1 all l1 ++ (bl2 ++ 59 :: (bl3 ++ pairOf n2 all l2 ++ (bl4 ++ 44 :: rest)))) := At.of_list h
  have A1 := A0.right
  have A2 := A1.right
  have A3 := A2.tail
  have A4 := A3.right
  have A5 := A4.right
  have K1 := skip_of A1 b2 (by decide)
  have K2 := skip_of A4 b4 (by decide)
  have P1 := pair_of (i := 0) (m := 0 + (bl1 ++ pairOf n1 all l1).length + bl2.length) (isF := f1) (isP := !f1) A0.left b1 hn1.letters hn1.ne hn1.hF hn1.hP
    (by rw [show 0 + bl1.length + (pairOf n1 all l1).length = 0 + (bl1 ++ pairOf n1 all l1).length by simp only [List.length_append]; omega]; exact K1)
  have P2 := pair_of (i := 0 + (bl1 ++ pairOf n1 all l1).length + bl2.length + 1) (m := 0 + (bl1 ++ pairOf n1 all l1).length + bl2.length + 1 + (bl3 ++ pairOf n2 all l2).length + bl4.length) (isF := !f1) (isP := f1) A3.left b3 hn2.letters hn2.ne hn2.hF (by rw [hn2.hP]; simp)
    (by rw [show 0 + (bl1 ++ pairOf n1 all l1).length + bl2.length + 1 + bl3.length + (pairOf n2 all l2).length = 0 + (bl1 ++ pairOf n1 all l1).length + bl2.length + 1 + (bl3 ++ pairOf n2 all l2).length by simp only [List.length_append]; omega]; exact K2)
  generalize hm1 : 0 + (bl1 ++ pairOf n1 all l1).length + bl2.length = m1 at *
  generalize hm2 : m1 + 1 + (bl3 ++ pairOf n2 all l2).length + bl4.length = m2 at *
  have e59 : bt s m1 = 59 := A2.head.2
  have e44 : bt s m2 = 44 := A5.head.2
  have s1 : m1 < s.size := A2.head.1
  have s2 : m2 < s.size := A5.head.1
  have z1 : Skip s m1 m1 := ⟨Nat.le_refl _, by omega, fun k h1 h2 => by omega, fun _ => by rw [e59]; rfl⟩
  have z2 : Skip s m2 m2 := ⟨Nat.le_refl _, by omega, fun k h1 h2 => by omega, fun _ => by rw [e44]; rfl⟩
  have fin : m2 = bl1.length + (pairOf n1 all l1).length + bl2.length + 1 + bl3.length + (pairOf n2 all l2).length + bl4.length := by
    rw [← hm2, ← hm1]; simp only [List.length_append]; omega
  cases f1
  · refine ⟨fun st => st = ⟨0, 0, false, false, ⟨#[]⟩, ⟨#[]⟩⟩ ∨ st = ⟨m1, 1, false, true, ⟨#[]⟩, ⟨l1.toArray⟩⟩ ∨ st = ⟨m1 + 1, 1, false, true, ⟨#[]⟩, ⟨l1.toArray⟩⟩ ∨ st = ⟨m2, 2, true, true, ⟨l2.toArray⟩, ⟨l1.toArray⟩⟩, Or.inl rfl, ?_⟩
    rintro st (rfl | rfl | rfl | rfl) _ _
    · exact Or.inr (Or.inr ⟨_, _, _, _, _, _, _, P1, Or.inr (Or.inl ⟨rfl, rfl, rfl, s1, Or.inl e59, Or.inr (Or.inl rfl)⟩)⟩)
    · exact Or.inr (Or.inl ⟨_, z1, s1, e59, Or.inr (Or.inr (Or.inl rfl))⟩)
    · exact Or.inr (Or.inr ⟨_, _, _, _, _, _, _, P2, Or.inl ⟨rfl, rfl, rfl, s2, Or.inr e44, Or.inr (Or.inr (Or.inr rfl))⟩⟩)
    · exact Or.inl ⟨_, z2, s2, e44, rfl, rfl, fin, rfl, rfl⟩
  · refine ⟨fun st => st = ⟨0, 0, false, false, ⟨#[]⟩, ⟨#[]⟩⟩ ∨ st = ⟨m1, 1, true, false, ⟨l1.toArray⟩, ⟨#[]⟩⟩ ∨ st = ⟨m1 + 1, 1, true, false, ⟨l1.toArray⟩, ⟨#[]⟩⟩ ∨ st = ⟨m2, 2, true, true, ⟨l1.toArray⟩, ⟨l2.toArray⟩⟩, Or.inl rfl, ?_⟩
    rintro st (rfl | rfl | rfl | rfl) _ _
    · exact Or.inr (Or.inr ⟨_, _, _, _, _, _, _, P1, Or.inl ⟨rfl, rfl, rfl, s1, Or.inl e59, Or.inr (Or.inl rfl)⟩⟩)
    · exact Or.inr (Or.inl ⟨_, z1, s1, e59, Or.inr (Or.inr (Or.inl rfl))⟩)
    · exact Or.inr (Or.inr ⟨_, _, _, _, _, _, _, P2, Or.inr (Or.inl ⟨rfl, rfl, rfl, s2, Or.inr e44, Or.inr (Or.inr (Or.inr rfl))⟩)⟩)
    · exact Or.inl ⟨_, z2, s2, e44, rfl, rfl, fin, rfl, rfl⟩

/-! ### THE SECOND LAW: a name that comes twice -/
theorem rr_states (s : ByteArray) (n1 l1 n2 l2 bl t : List UInt8) (all f1 : Bool) (h : s.data.toList = pairOf n1 false l1 ++ 59 :: (pairOf n2 all l2 ++ (bl ++ t)))
    (hb : Blanks bl) (ht : t = [] ∨ ∃ c u, t = c :: u ∧ blB (c.toNat : Int) = false) (hn1 : Named n1 f1) (hn2 : Named n2 f1) :
    ∃ I : PSt → Prop, I ⟨0, 0, false, false, ⟨#[]⟩, ⟨#[]⟩⟩ ∧ ∀ st, I st → st.i ≤ s.size → st.pairs ≤ st.i → Step s I (fun node proto i pairs ok => node = ⟨#[]⟩ ∧ proto = ⟨#[]⟩ ∧ i = (pairOf n1 false l1).length + 1 + (pairOf n2 all l2).length + bl.length ∧ pairs = 1 ∧ ok = false) st := by
  have A0 : At s 0 (pairOf n1 false l1 ++ 59 :: (pairOf n2 all l2 ++ (bl ++ t))) := At.of_list h
  have A1 := A0.right
  have A2 := A1.tail
  have A3 := A2.right
  have nb : Blanks [] := fun c hc => by cases hc
  have hsz : s.size = (pairOf n1 false l1).length + 1 + (pairOf n2 all l2).length + bl.length + t.length := by
    have : s.data.toList.length = s.size := by simp
    rw [← this, h]; simp only [List.length_append, List.length_cons]; omega
  have e59 : bt s (0 + (pairOf n1 false l1).length) = 59 := A1.head.2
  have s1 : 0 + (pairOf n1 false l1).length < s.size := A1.head.1
  have z1 : Skip s (0 + (pairOf n1 false l1).length) (0 + (pairOf n1 false l1).length) := ⟨Nat.le_refl _, by omega, fun k h1 h2 => by omega, fun _ => by rw [e59]; rfl⟩
  have K2 : Skip s (0 + (pairOf n1 false l1).length + 1 + (pairOf n2 all l2).length) (0 + (pairOf n1 false l1).length + 1 + (pairOf n2 all l2).length + bl.length) := by
    rcases ht with rfl | ⟨c, u, rfl, hc⟩
    · exact skip_end A3.left hb (by simp at hsz; omega)
    · exact skip_of A3 hb hc
  have P1 := pair_of (i := 0) (bl := []) (isF := f1) (isP := !f1) A0.left nb hn1.letters hn1.ne hn1.hF hn1.hP z1
  have P2 := pair_of (i := 0 + (pairOf n1 false l1).length + 1) (bl := []) (isF := f1) (isP := !f1) A2.left nb hn2.letters hn2.ne hn2.hF hn2.hP K2
  have fin : 0 + (pairOf n1 false l1).length + 1 + (pairOf n2 all l2).length + bl.length = (pairOf n1 false l1).length + 1 + (pairOf n2 all l2).length + bl.length := by omega
  generalize 0 + (pairOf n1 false l1).length = m1 at *
  generalize m1 + 1 + (pairOf n2 all l2).length + bl.length = m2 at *
  have last : ∀ st : PSt, st.i = m1 + 1 → st.pairs = 1 → (f1 = true ∧ st.gf = true ∨ f1 = false ∧ st.gp = true) → ∀ I, Step s I (fun node proto i pairs ok => node = ⟨#[]⟩ ∧ proto = ⟨#[]⟩ ∧ i = (pairOf n1 false l1).length + 1 + (pairOf n2 all l2).length + bl.length ∧ pairs = 1 ∧ ok = false) st := by
    rintro ⟨si, sp, gf, gp, node, proto⟩ h1 h2 h3 I
    obtain rfl : si = m1 + 1 := h1
    obtain rfl : sp = 1 := h2
    refine Or.inr (Or.inr ⟨_, _, _, _, _, _, _, P2, Or.inr (Or.inr ?_)⟩)
    by_cases hbad : m2 < s.size ∧ bt s m2 ≠ 59 ∧ bt s m2 ≠ 44
    · exact Or.inl ⟨hbad.1, hbad.2.1, hbad.2.2, rfl, rfl, fin, rfl, rfl⟩
    · refine Or.inr ⟨?_, fun hlt => by omega, rfl, rfl, fin, rfl, rfl⟩
      rcases h3 with ⟨rfl, h4⟩ | ⟨rfl, h4⟩
      · exact Or.inl ⟨rfl, rfl, h4⟩
      · exact Or.inr ⟨rfl, rfl, h4⟩
  cases f1
  · refine ⟨fun st => st = ⟨0, 0, false, false, ⟨#[]⟩, ⟨#[]⟩⟩ ∨ st = ⟨m1, 1, false, true, ⟨#[]⟩, ⟨l1.toArray⟩⟩ ∨ st = ⟨m1 + 1, 1, false, true, ⟨#[]⟩, ⟨l1.toArray⟩⟩, Or.inl rfl, ?_⟩
    rintro st (rfl | rfl | rfl) _ _
    · exact Or.inr (Or.inr ⟨_, _, _, _, _, _, _, P1, Or.inr (Or.inl ⟨rfl, rfl, rfl, s1, Or.inl e59, Or.inr (Or.inl rfl)⟩)⟩)
    · exact Or.inr (Or.inl ⟨_, z1, s1, e59, Or.inr (Or.inr rfl)⟩)
    · exact last _ rfl rfl (Or.inr ⟨rfl, rfl⟩) _
  · refine ⟨fun st => st = ⟨0, 0, false, false, ⟨#[]⟩, ⟨#[]⟩⟩ ∨ st = ⟨m1, 1, true, false, ⟨l1.toArray⟩, ⟨#[]⟩⟩ ∨ st = ⟨m1 + 1, 1, true, false, ⟨l1.toArray⟩, ⟨#[]⟩⟩, Or.inl rfl, ?_⟩
    rintro st (rfl | rfl | rfl) _ _
    · exact Or.inr (Or.inr ⟨_, _, _, _, _, _, _, P1, Or.inl ⟨rfl, rfl, rfl, s1, Or.inl e59, Or.inr (Or.inl rfl)⟩⟩)
    · exact Or.inr (Or.inl ⟨_, z1, s1, e59, Or.inr (Or.inr rfl)⟩)
    · exact last _ rfl rfl (Or.inl ⟨rfl, rfl⟩) _
end Go.Proofs.Qxb6601195aDoor

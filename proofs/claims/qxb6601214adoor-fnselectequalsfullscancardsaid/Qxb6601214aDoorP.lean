/- Seat b6601214aD: plain laws. No Go in sight. -/
import Derived.Lib.Split
import Derived.Lib.SplitLaws
import Derived.Lib.Join
import Derived.Lib.SlicesCompact
import Derived.Sort.Walk0
namespace Go.Proofs.Qxb6601214aDoor

/-! ### A text cut at its slashes -/
def cut : List UInt8 → List (List UInt8)
  | [] => [[]]
  | c :: l => if c = 47 then [] :: cut l else match cut l with
    | [] => [[c]]
    | h :: t => (c :: h) :: t

theorem cut_ne (l : List UInt8) : cut l ≠ [] := by
  cases l with
  | nil => simp [cut]
  | cons c l =>
    unfold cut
    split
    · simp
    · split <;> simp

theorem cut_none : ∀ (l : List UInt8), (47 : UInt8) ∉ l → cut l = [l]
  | [], _ => rfl
  | c :: l, h => by
    have h1 : c ≠ 47 := fun e => h (by simp [e])
    have h2 : (47 : UInt8) ∉ l := fun e => h (by simp [e])
    simp [cut, h1, cut_none l h2]

theorem cut_app : ∀ (a r : List UInt8), (47 : UInt8) ∉ a → cut (a ++ 47 :: r) = a :: cut r
  | [], r, _ => by simp [cut]
  | c :: a, r, h => by
    have h1 : c ≠ 47 := fun e => h (by simp [e])
    have h2 : (47 : UInt8) ∉ a := fun e => h (by simp [e])
    simp [cut, h1, cut_app a r h2]

theorem index_slash : ∀ (l : List UInt8), (47 : UInt8) ∉ l → Lib.index l [47] = -1
  | [], _ => rfl
  | c :: l, h => by
    have h1 : c ≠ 47 := fun e => h (by simp [e])
    have h2 : (47 : UInt8) ∉ l := fun e => h (by simp [e])
    have h3 : ¬ (47 : UInt8) = c := fun e => h1 e.symm
    simp [Lib.index, List.isPrefixOf, h3, index_slash l h2]
theorem index_slash_at : ∀ (a r : List UInt8), (47 : UInt8) ∉ a → Lib.index (a ++ 47 :: r) [47] = a.length
  | [], r, _ => by simp [Lib.index, List.isPrefixOf]
  | c :: a, r, h => by
    have h1 : c ≠ 47 := fun e => h (by simp [e])
    have h2 : (47 : UInt8) ∉ a := fun e => h (by simp [e])
    have h3 : ¬ (47 : UInt8) = c := fun e => h1 e.symm
    have := index_slash_at a r h2
    simp [Lib.index, List.isPrefixOf, h3, this]

theorem slash_split (l : List UInt8) (h : (47 : UInt8) ∈ l) : ∃ a r, l = a ++ 47 :: r ∧ (47 : UInt8) ∉ a := by
  induction l with
  | nil => simp at h
  | cons c l ih =>
    by_cases hc : c = 47
    · exact ⟨[], l, by simp [hc], by simp⟩
    · have : (47 : UInt8) ∈ l := by
        rcases List.mem_cons.1 h with e | e
        · exact absurd e.symm hc
        · exact e
      obtain ⟨a, r, rfl, hn⟩ := ih this
      refine ⟨c :: a, r, rfl, ?_⟩
      intro e
      rcases List.mem_cons.1 e with e | e
      · exact hc e.symm
      · exact hn e

theorem splitK_cut : ∀ (k : Nat) (l : List UInt8), l.count 47 = k → Lib.splitK [47] 0 k l = cut l
  | 0, l, h => by
    have h1 : (47 : UInt8) ∉ l := List.count_eq_zero.1 h
    rw [cut_none l h1]; rfl
  | k + 1, l, h => by
    have h1 : (47 : UInt8) ∈ l := by
      apply Classical.byContradiction
      intro hn
      rw [List.count_eq_zero.2 hn] at h; omega
    obtain ⟨a, r, rfl, hn⟩ := slash_split l h1
    have hi := index_slash_at a r hn
    unfold Lib.splitK
    have hne : ¬ (Lib.index (a ++ 47 :: r) [47] == -1) = true := by rw [hi]; simp
    rw [if_neg hne, hi, cut_app a r hn]
    have e1 : ((a.length : Int).toNat + 0) = a.length := by omega
    have e2 : ((a.length : Int).toNat + [(47 : UInt8)].length) = a.length + 1 := by simp
    rw [e1, e2]
    have e3 : (a ++ 47 :: r).take a.length = a := by simp
    have e4 : (a ++ 47 :: r).drop (a.length + 1) = r := by
      rw [show a ++ 47 :: r = (a ++ [47]) ++ r by simp, show a.length + 1 = (a ++ [(47 : UInt8)]).length by simp, List.drop_left]
    rw [e3, e4, splitK_cut k r (by simp [List.count_append, List.count_eq_zero.2 hn] at h; omega)]

theorem split_cut (l : List UInt8) : Lib.split l [47] = cut l := by
  unfold Lib.split
  rw [Lib.count_one]
  exact splitK_cut _ l rfl

theorem joinTail_app (p r : List (List UInt8)) : Lib.joinTail [47] (p ++ r) = Lib.joinTail [47] p ++ Lib.joinTail [47] r := by
  simp [Lib.joinTail]
theorem join_app (p r : List (List UInt8)) (h : p ≠ []) : Lib.join (p ++ r) [47] = Lib.join p [47] ++ Lib.joinTail [47] r := by
  cases p with
  | nil => exact absurd rfl h
  | cons x p =>
    rw [List.cons_append, Lib.join_cons, Lib.join_cons, joinTail_app, List.append_assoc]
theorem joinTail_cons (x : List UInt8) (r : List (List UInt8)) : Lib.joinTail [47] (x :: r) = 47 :: (x ++ Lib.joinTail [47] r) := by
  simp [Lib.joinTail]
theorem join_cut : ∀ l : List UInt8, Lib.join (cut l) [47] = l
  | [] => by simp [cut, Lib.join_one]
  | c :: l => by
    have ih := join_cut l
    unfold cut
    cases hc : cut l with
    | nil => exact absurd hc (cut_ne l)
    | cons h t =>
      rw [hc, Lib.join_cons] at ih
      by_cases h47 : c = 47
      · rw [if_pos h47, Lib.join_cons, joinTail_cons, ih, h47]; rfl
      · rw [if_neg h47, Lib.join_cons, List.cons_append, ih]

/-! ### Where the texts that begin with B lie in the order -/
theorem less_self : ∀ (B T : List UInt8), Op.bytesLess (B ++ T) B = false
  | [], T => by cases T <;> rfl
  | b :: B, T => by
    show (decide (b < b) || (b == b && Op.bytesLess (B ++ T) B)) = false
    rw [less_self B T]; simp
theorem less_next : ∀ (B T : List UInt8), (T = [] ∨ ∃ u, T = 47 :: u) → Op.bytesLess (B ++ T) (B ++ [48]) = true
  | [], T, h => by
    rcases h with rfl | ⟨u, rfl⟩
    · rfl
    · show (decide ((47 : UInt8) < 48) || _) = true
      simp
  | b :: B, T, h => by
    show (decide (b < b) || (b == b && Op.bytesLess (B ++ T) (B ++ [48]))) = true
    rw [less_next B T h]; simp
theorem joinTail_head (r : List (List UInt8)) : Lib.joinTail [47] r = [] ∨ ∃ u, Lib.joinTail [47] r = 47 :: u := by
  cases r with
  | nil => exact Or.inl rfl
  | cons x r => exact Or.inr ⟨_, joinTail_cons x r⟩

/-! ### The greedy walk of 'match' -/
def tailOk (st : Nat → Bool) : Nat → Nat → Bool
  | 0, _ => true
  | k + 1, i => st i && tailOk st k (i + 1)
def mrun (st : Nat → Bool) (is : Nat → Nat → Bool) (n m : Nat) : Nat → Nat → Nat → Int → Nat → Bool
  | 0, _, _, _, _ => false
  | f + 1, i, j, ls, rs =>
    if j < m then
      if (decide (i < n) && st i) = true then mrun st is n m f (i + 1) j i j
      else if (decide (i < n) && is i j) = true then mrun st is n m f (i + 1) (j + 1) ls rs
      else if 0 ≤ ls then mrun st is n m f (ls.toNat + 1) (rs + 1) ls (rs + 1)
      else false
    else tailOk st (n - i) i
def mval (st : Nat → Bool) (is : Nat → Nat → Bool) (n m : Nat) : Bool := mrun st is n m (m * (n + 1) + n + 1) 0 0 (-1) 0

/-- A pattern whose first p elements are no stars matches only a text whose first p elements they are. -/
theorem mrun_prefix (st : Nat → Bool) (is : Nat → Nat → Bool) (n m p : Nat) (hp : p ≤ n) (hst : ∀ k, k < p → st k = false) :
    ∀ (f i rs : Nat), i ≤ p → i ≤ m → (∀ k, k < i → is k k = true) → mrun st is n m f i i (-1) rs = true → p ≤ m ∧ ∀ k, k < p → is k k = true
  | 0, _, _, _, _, _, h => by simp [mrun] at h
  | f + 1, i, rs, hi, hm, hk, h => by
    by_cases hip : i = p
    · subst hip; exact ⟨hm, hk⟩
    have hlt : i < p := by omega
    have hs := hst i hlt
    unfold mrun at h
    by_cases hj : i < m
    · rw [if_pos hj, hs] at h
      simp only [Bool.and_false, Bool.false_eq_true, if_false] at h
      by_cases his : (decide (i < n) && is i i) = true
      · rw [if_pos his] at h
        refine mrun_prefix st is n m p hp hst f (i + 1) rs (by omega) (by omega) (fun k hk' => ?_) h
        rcases Nat.lt_or_ge k i with h1 | h1
        · exact hk k h1
        · rw [show k = i by omega]
          simp only [Bool.and_eq_true] at his
          exact his.2
      · rw [if_neg his, if_neg (by omega)] at h; cases h
    · rw [if_neg hj] at h
      obtain ⟨q, hq⟩ : ∃ q, n - i = q + 1 := ⟨n - i - 1, by omega⟩
      rw [hq] at h
      simp [tailOk, hs] at h

/-- A pattern without any star matches only a text of its own length. -/
theorem mrun_exact (st : Nat → Bool) (is : Nat → Nat → Bool) (n m : Nat) (hst : ∀ k, k < n → st k = false) :
    ∀ (f i rs : Nat), i ≤ n → i ≤ m → mrun st is n m f i i (-1) rs = true → n = m
  | 0, _, _, _, _, h => by simp [mrun] at h
  | f + 1, i, rs, hi, hm, h => by
    unfold mrun at h
    by_cases hj : i < m
    · rw [if_pos hj] at h
      by_cases hn : i < n
      · rw [hst i hn] at h
        simp only [Bool.and_false, Bool.false_eq_true, if_false] at h
        by_cases his : (decide (i < n) && is i i) = true
        · rw [if_pos his] at h
          exact mrun_exact st is n m hst f (i + 1) rs (by omega) (by omega) h
        · rw [if_neg his, if_neg (by omega)] at h; cases h
      · simp [hn] at h
    · rw [if_neg hj] at h
      by_cases hn : i < n
      · obtain ⟨q, hq⟩ : ∃ q, n - i = q + 1 := ⟨n - i - 1, by omega⟩
        rw [hq] at h
        simp [tailOk, hst i hn] at h
      · omega

/-! ### Sorted, then each once -/
theorem sorted_eq : ∀ {l l' : List Int}, l.Pairwise (· < ·) → l'.Pairwise (· < ·) → (∀ x, x ∈ l ↔ x ∈ l') → l = l'
  | [], [], _, _, _ => rfl
  | [], y :: l', _, _, hm => by have := (hm y).2 (by simp); simp at this
  | x :: l, [], _, _, hm => by have := (hm x).1 (by simp); simp at this
  | x :: l, y :: l', h, h', hm => by
    have hx := List.pairwise_cons.1 h
    have hy := List.pairwise_cons.1 h'
    have e : x = y := by
      have h1 := (hm x).1 (by simp)
      have h2 := (hm y).2 (by simp)
      rcases List.mem_cons.1 h1 with e | e
      · exact e
      · rcases List.mem_cons.1 h2 with e2 | e2
        · exact e2.symm
        · have a1 := hy.1 x e; have a2 := hx.1 y e2; omega
    subst e
    rw [sorted_eq hx.2 hy.2 (fun z => ?_)]
    constructor
    · intro hz
      have := (hm z).1 (by simp [hz])
      rcases List.mem_cons.1 this with e | e
      · have := hx.1 z hz; omega
      · exact e
    · intro hz
      have := (hm z).2 (by simp [hz])
      rcases List.mem_cons.1 this with e | e
      · have := hy.1 z hz; omega
      · exact e

theorem compactUpTo_spec (d : Array Int) (hs : ∀ i j, i ≤ j → j < d.size → d[i]! ≤ d[j]!) : ∀ m, m ≤ d.size →
    (Lib.compactUpTo d m).Pairwise (· < ·) ∧ ∀ x, x ∈ Lib.compactUpTo d m ↔ ∃ j, j < m ∧ d[j]! = x
  | 0, _ => ⟨by simp [Lib.compactUpTo], fun x => by simp [Lib.compactUpTo]⟩
  | m + 1, hm => by
    obtain ⟨h1, h2⟩ := compactUpTo_spec d hs m (by omega)
    rw [Lib.compactUpTo_succ]
    by_cases hk : Lib.keeps d m = true
    · rw [if_pos hk]
      refine ⟨List.pairwise_append.2 ⟨h1, by simp, fun a ha b hb => ?_⟩, fun x => ?_⟩
      · simp at hb; subst hb
        obtain ⟨j, hj, rfl⟩ := (h2 a).1 ha
        simp only [Lib.keeps, decide_eq_true_eq] at hk
        have a1 := hs j (m - 1) (by omega) (by omega)
        have a2 := hs (m - 1) m (by omega) (by omega)
        have a3 : d[m]! ≠ d[m - 1]! := by rcases hk with h | h; omega; exact h
        omega
      · rw [List.mem_append, h2 x]
        constructor
        · rintro (⟨j, hj, e⟩ | h)
          · exact ⟨j, by omega, e⟩
          · simp at h; exact ⟨m, by omega, h.symm⟩
        · rintro ⟨j, hj, e⟩
          rcases Nat.lt_or_ge j m with h | h
          · exact Or.inl ⟨j, h, e⟩
          · rw [show j = m by omega] at e; right; simp [e]
    · rw [if_neg hk, List.append_nil]
      refine ⟨h1, fun x => ?_⟩
      rw [h2 x]
      constructor
      · rintro ⟨j, hj, e⟩; exact ⟨j, by omega, e⟩
      · rintro ⟨j, hj, e⟩
        rcases Nat.lt_or_ge j m with h | h
        · exact ⟨j, h, e⟩
        · have hkf : ¬ (m = 0 ∨ d[m]! ≠ d[m - 1]!) := by simpa [Lib.keeps] using hk
          have hm0 : m ≠ 0 := fun e => hkf (Or.inl e)
          have hee : d[m]! = d[m - 1]! := by
            apply Classical.byContradiction; intro hne; exact hkf (Or.inr hne)
          rw [show j = m by omega, hee] at e
          exact ⟨m - 1, by omega, e⟩

theorem compact_sort (L l' : List Int) (h' : l'.Pairwise (· < ·)) (hm : ∀ x, x ∈ L ↔ x ∈ l') : Lib.compact (L.mergeSort fun x y => decide (x ≤ y)) = l' := by
  have hp := List.mergeSort_perm L (fun x y : Int => decide (x ≤ y))
  have hs := List.pairwise_mergeSort (le := fun x y : Int => decide (x ≤ y)) (by intro a b c; simp; omega) (by intro a b; simp; omega) L
  generalize hM : L.mergeSort (fun x y : Int => decide (x ≤ y)) = M at *
  have hs2 : ∀ i j, i ≤ j → j < M.toArray.size → M.toArray[i]! ≤ M.toArray[j]! := by
    intro i j hij hj
    have hjl : j < M.length := by simpa using hj
    have hil : i < M.length := by omega
    rw [getElem!_pos M.toArray i (by simpa using hil), getElem!_pos M.toArray j hj]
    rcases Nat.lt_or_ge i j with h | h
    · have := List.pairwise_iff_getElem.1 hs i j hil hjl h
      simpa using this
    · have : i = j := by omega
      subst this; exact Int.le_refl _
  obtain ⟨h1, h2⟩ := compactUpTo_spec M.toArray hs2 M.length (by simp)
  refine sorted_eq h1 h' (fun x => ?_)
  show x ∈ Lib.compactUpTo M.toArray M.length ↔ _
  rw [h2 x, ← hm x, ← hp.mem_iff]
  constructor
  · rintro ⟨j, hj, rfl⟩
    rw [getElem!_pos M.toArray j (by simpa using hj)]
    simp
  · intro hx
    obtain ⟨j, hj, rfl⟩ := List.mem_iff_getElem.1 hx
    exact ⟨j, hj, by rw [getElem!_pos M.toArray j (by simpa using hj)]; simp⟩
end Go.Proofs.Qxb6601214aDoor

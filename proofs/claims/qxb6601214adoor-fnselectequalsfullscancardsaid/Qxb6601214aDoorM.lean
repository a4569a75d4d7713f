/- Seat b6601214aD: the plain law: what Select collects is what a full scan finds. -/
import Derived.Test.Qxb6601214aDoorL
namespace Go.Proofs.Qxb6601214aDoor
open Go.RowKit Go.PlainAid Go.Sort Go.Shelf

theorem less_trans : ∀ (a b c : List UInt8), Op.bytesLess a b = true → Op.bytesLess b c = true → Op.bytesLess a c = true
  | [], b, [], _, h2 => by cases b <;> simp [Op.bytesLess] at h2
  | [], _, _ :: _, _, _ => rfl
  | _ :: _, [], _, h1, _ => by simp [Op.bytesLess] at h1
  | _ :: _, _ :: _, [], _, h2 => by simp [Op.bytesLess] at h2
  | x :: a, y :: b, z :: c, h1, h2 => by
    simp only [Op.bytesLess, Bool.or_eq_true, Bool.and_eq_true, decide_eq_true_eq, beq_iff_eq] at h1 h2 ⊢
    rcases h1 with h1 | ⟨rfl, h1⟩
    · rcases h2 with h2 | ⟨rfl, _⟩
      · exact Or.inl (UInt8.lt_trans h1 h2)
      · exact Or.inl h1
    · rcases h2 with h2 | ⟨rfl, h2⟩
      · exact Or.inl h2
      · exact Or.inr ⟨rfl, less_trans a b c h1 h2⟩

theorem sorted_less {ss : List ByteArray} (h : SortedS ss) (x : List UInt8) : ∀ (d a : Nat), a + d < ss.length → Op.bytesLess (sg ss (a + d)).toList x = true → Op.bytesLess (sg ss a).toList x = true
  | 0, _, _, h2 => h2
  | d + 1, a, h1, h2 => by
    refine sorted_less h x d a (by omega) ?_
    have hg := h (a + d) (by omega)
    rw [show a + (d + 1) = a + d + 1 by omega] at h2
    unfold gtB at hg
    cases hl : Op.bytesLess (sg ss (a + d)).toList (sg ss (a + d + 1)).toList with
    | true => exact less_trans _ _ _ hl h2
    | false =>
      rw [hl] at hg
      simp at hg
      rw [hg]; exact h2

theorem bsGo_mono (less : Nat → Bool) (n : Nat) (hm : ∀ a b, a ≤ b → b < n → less b = true → less a = true) : ∀ (f lo hi : Nat), hi ≤ n → hi - lo ≤ f → lo ≤ hi →
    lo ≤ Lib.bsGo less f lo hi ∧ (∀ t, lo ≤ t → t < Lib.bsGo less f lo hi → less t = true) ∧ (∀ t, Lib.bsGo less f lo hi ≤ t → t < hi → less t = false)
  | 0, lo, hi, _, h2, h3 => by
    simp only [Lib.bsGo]
    exact ⟨Nat.le_refl _, fun t h4 h5 => by omega, fun t h4 h5 => by omega⟩
  | f + 1, lo, hi, h1, h2, h3 => by
    unfold Lib.bsGo
    by_cases hlt : lo < hi
    · rw [if_pos hlt]
      cases hl : less ((lo + hi) / 2) with
      | true =>
        rw [if_pos rfl]
        obtain ⟨a, b, c⟩ := bsGo_mono less n hm f ((lo + hi) / 2 + 1) hi h1 (by omega) (by omega)
        refine ⟨by omega, fun t h4 h5 => ?_, c⟩
        rcases Nat.lt_or_ge t ((lo + hi) / 2 + 1) with h6 | h6
        · exact hm t ((lo + hi) / 2) (by omega) (by omega) hl
        · exact b t h6 h5
      | false =>
        rw [if_neg (by simp)]
        obtain ⟨a, b, c⟩ := bsGo_mono less n hm f lo ((lo + hi) / 2) (by omega) (by omega) (by omega)
        refine ⟨a, b, fun t h4 h5 => ?_⟩
        rcases Nat.lt_or_ge t ((lo + hi) / 2) with h6 | h6
        · exact c t h4 h6
        · cases ht : less t with
          | false => rfl
          | true =>
            have := hm ((lo + hi) / 2) t h6 (by omega) ht
            rw [hl] at this; cases this
    · rw [if_neg hlt]
      exact ⟨Nat.le_refl _, fun t h4 h5 => by omega, fun t h4 h5 => by omega⟩

theorem bs_spec {ss : List ByteArray} (h : SortedS ss) (x : ByteArray) (i : Nat) (hi : i < ss.length) : (Op.bytesLess (sg ss i).toList x.toList = false → bs ss x ≤ i) ∧ (Op.bytesLess (sg ss i).toList x.toList = true → i < bs ss x) := by
  obtain ⟨_, b, c⟩ := bsGo_mono (fun t => Op.bytesLess (sg ss t).toList x.toList) ss.length (fun a b hab hb hl => by
    have := sorted_less h x.toList (b - a) a (by omega) (by rw [show a + (b - a) = b by omega]; exact hl)
    exact this) ss.length 0 ss.length (Nat.le_refl _) (by omega) (Nat.zero_le _)
  constructor
  · intro hf
    rcases Nat.lt_or_ge i (bs ss x) with h1 | h1
    · have h2 : Op.bytesLess (sg ss i).toList x.toList = true := b i (Nat.zero_le _) h1
      rw [hf] at h2; cases h2
    · exact h1
  · intro ht
    rcases Nat.lt_or_ge i (bs ss x) with h1 | h1
    · exact h1
    · have h2 : Op.bytesLess (sg ss i).toList x.toList = false := c i h1 hi
      rw [ht] at h2; cases h2

/-! ### a segment without a star matches itself alone -/
theorem seg_eq {seg name : ByteArray} (hs : star seg = false) (h : segM seg name = true) : seg.data.toList = name.data.toList := by
  have hst : ∀ k, k < seg.size → (bt seg k == 42) = false := by
    intro k hk
    cases hb : (bt seg k == 42) with
    | false => rfl
    | true =>
      have := star_of hk (by simpa using hb)
      rw [hs] at this; cases this
  have e1 := mrun_exact (fun i => bt seg i == 42) (fun i j => bt seg i == bt name j) seg.size name.size hst _ 0 0 (Nat.zero_le _) (Nat.zero_le _) h
  have e2 := (mrun_prefix (fun i => bt seg i == 42) (fun i j => bt seg i == bt name j) seg.size name.size seg.size (Nat.le_refl _) hst _ 0 0 (Nat.zero_le _) (Nat.zero_le _) (fun k hk => by omega) h).2
  have l1 : seg.data.toList.length = seg.size := by simp
  have l2 : name.data.toList.length = name.size := by simp
  apply List.ext_getElem (by omega)
  intro k h1 h2
  have := e2 k (by omega)
  simp only [beq_iff_eq] at this
  rw [bt_get seg k h1, bt_get name k h2] at this
  exact UInt8.toNat_inj.1 (by omega)

theorem isSS_star {s : ByteArray} (h : star s = false) : isSS s = false := by
  cases hi : isSS s with
  | false => rfl
  | true =>
    have e : s.toList = [42, 42] := by simpa [isSS] using hi
    rw [Lib.toList_data] at e
    have : star s = true := by unfold star; rw [e]; decide
    rw [h] at this; cases this

theorem git_segs {s : ByteArray} (h : Git s.data.toList) : segs s = pieces s := by
  unfold segs
  rw [List.filter_eq_self]
  intro x hx
  have hm : x.data.toList ∈ cut s.data.toList := by rw [← pieces_data]; exact List.mem_map.2 ⟨x, hx, rfl⟩
  obtain ⟨h1, h2⟩ := h _ hm
  simp only [delB, Lib.toList_data, Bool.not_eq_true', Bool.or_eq_false_iff]
  exact ⟨by simpa using h1, by simpa using h2⟩

theorem match_lead {P S : List ByteArray} (hP : SomeStar P) (h : pathM P S = true) : (lead P).map (·.data.toList) = (S.map (·.data.toList)).take (lead P).length := by
  obtain ⟨a, _, c, d⟩ := lead_len hP
  obtain ⟨h1, h2⟩ := mrun_prefix (fun i => isSS (sg P i)) (fun i j => segM (sg P i) (sg S j)) P.length S.length (lead P).length (by omega) (fun k hk => isSS_star (c k hk)) _ 0 0 (Nat.zero_le _) (Nat.zero_le _) (fun k hk => by omega) h
  apply List.ext_getElem (by simp; omega)
  intro k hk1 hk2
  have hk : k < (lead P).length := by simpa using hk1
  have e := seg_eq (c k hk) (h2 k hk)
  rw [List.getElem_map, List.getElem_take, List.getElem_map]
  have e1 : (lead P)[k] = sg P k := by
    have h3 : (P.take (lead P).length)[k]? = some (sg P k) := by rw [List.getElem?_take_of_lt hk, sg_get (by omega)]
    rw [d, List.getElem?_eq_getElem hk] at h3
    exact Option.some.inj h3
  have e2 : S[k]'(by omega) = sg S k := by
    have := sg_get (show k < S.length by omega)
    rw [List.getElem?_eq_getElem (by omega)] at this
    exact Option.some.inj this
  rw [e1, e2]; exact e

/-- A path that a pattern matches begins with the pattern's base. -/
theorem match_base {P : List ByteArray} {s : ByteArray} (hP : SomeStar P) (hg : Git s.data.toList) (h : pathM P (segs s) = true) (hb : (baseS P).toList.isEmpty = false) :
    Op.bytesLess s.toList (baseS P).toList = false ∧ Op.bytesLess s.toList (baseS P ++ ⟨#[48]⟩).toList = true := by
  have e := match_lead hP h
  rw [git_segs hg, pieces_data] at e
  have hne : (lead P).map (·.data.toList) ≠ [] := by
    intro h0
    unfold baseS at hb
    rw [h0] at hb
    simp [Lib.join_nil, Lib.toList_data] at hb
  have es : s.data.toList = Lib.join ((lead P).map (·.data.toList)) [47] ++ Lib.joinTail [47] ((cut s.data.toList).drop (lead P).length) := by
    rw [← join_app _ _ hne]
    conv => lhs; rw [← join_cut s.data.toList, ← List.take_append_drop (lead P).length (cut s.data.toList)]
    rw [e]
  have eb : (baseS P).toList = Lib.join ((lead P).map (·.data.toList)) [47] := by rw [Lib.toList_data]; rfl
  have eb2 : (baseS P ++ ⟨#[48]⟩).toList = Lib.join ((lead P).map (·.data.toList)) [47] ++ [48] := by
    rw [Lib.toList_data, ByteArray.data_append, Array.toList_append]; rfl
  rw [eb, eb2, Lib.toList_data, es]
  exact ⟨less_self _ _, less_next _ _ (joinTail_head _)⟩

/-! ### the scan -/
def hitB (R : Nat → List ByteArray) (N : Nat) (ss : List ByteArray) (i : Nat) : Bool := (List.range N).any fun k => pathM (R k) (segs (sg ss i))
def hits (R : Nat → List ByteArray) (N : Nat) (ss : List ByteArray) (n : Nat) : List Nat := (List.range n).filter (hitB R N ss)

theorem part_mem {P ss : List ByteArray} (hP : SomeStar P) (hs : SortedS ss) (hg : ∀ i, i < ss.length → Git (sg ss i).data.toList) (x : Int) :
    x ∈ part P ss (loP P ss) (hiP P ss) ↔ ∃ i : Nat, x = i ∧ i < ss.length ∧ pathM P (segs (sg ss i)) = true := by
  have hle := hi_le P ss
  unfold part
  constructor
  · intro h
    obtain ⟨i, hi, rfl⟩ := List.mem_map.1 h
    obtain ⟨h1, h2⟩ := List.mem_filter.1 hi
    rw [List.mem_range'_1] at h1
    exact ⟨i, rfl, by omega, h2⟩
  · rintro ⟨i, rfl, hi, hm⟩
    refine List.mem_map.2 ⟨i, List.mem_filter.2 ⟨?_, hm⟩, rfl⟩
    rw [List.mem_range'_1]
    cases hb : (baseS P).toList.isEmpty with
    | true =>
      have e1 : loP P ss = 0 := by unfold loP; rw [if_pos hb]
      have e2 : hiP P ss = ss.length := by unfold hiP; rw [if_pos hb]
      omega
    | false =>
      have e1 : loP P ss = bs ss (baseS P) := by unfold loP; rw [if_neg (by rw [hb]; simp)]
      have e2 : hiP P ss = bs ss (baseS P ++ ⟨#[48]⟩) := by unfold hiP; rw [if_neg (by rw [hb]; simp)]
      obtain ⟨f1, f2⟩ := match_base hP (hg i hi) hm hb
      have g1 := (bs_spec hs (baseS P) i hi).1 f1
      have g2 := (bs_spec hs (baseS P ++ ⟨#[48]⟩) i hi).2 f2
      omega

theorem sel_iff {R : Nat → List ByteArray} {ss : List ByteArray} (hs : SortedS ss) (hg : ∀ i, i < ss.length → Git (sg ss i).data.toList) : ∀ (N : Nat), (∀ k, k < N → SomeStar (R k)) → ∀ x : Int,
    x ∈ sel R ss N ↔ ∃ i : Nat, x = i ∧ i < ss.length ∧ ∃ k, k < N ∧ pathM (R k) (segs (sg ss i)) = true
  | 0, _, x => by simp [sel]
  | N + 1, hR, x => by
    rw [sel, List.mem_append, sel_iff hs hg N (fun k hk => hR k (by omega)) x, part_mem (hR N (by omega)) hs hg x]
    constructor
    · rintro (⟨i, e, hi, k, hk, hm⟩ | ⟨i, e, hi, hm⟩)
      · exact ⟨i, e, hi, k, by omega, hm⟩
      · exact ⟨i, e, hi, N, by omega, hm⟩
    · rintro ⟨i, e, hi, k, hk, hm⟩
      rcases Nat.lt_or_ge k N with h | h
      · exact Or.inl ⟨i, e, hi, k, h, hm⟩
      · rw [show k = N by omega] at hm
        exact Or.inr ⟨i, e, hi, hm⟩

theorem select_eq {R : Nat → List ByteArray} {ss : List ByteArray} {N : Nat} (hs : SortedS ss) (hg : ∀ i, i < ss.length → Git (sg ss i).data.toList) (hR : ∀ k, k < N → SomeStar (R k)) :
    ((Lib.compact ((sel R ss N).mergeSort fun x y => decide (x ≤ y))).map fun i => sg ss i.toNat) = (hits R N ss ss.length).map (sg ss) := by
  have e : Lib.compact ((sel R ss N).mergeSort fun x y => decide (x ≤ y)) = (hits R N ss ss.length).map fun (i : Nat) => (i : Int) := by
    refine compact_sort _ _ ?_ (fun x => ?_)
    · rw [List.pairwise_map]
      refine List.Pairwise.imp (fun h => by omega) (List.Pairwise.filter _ List.pairwise_lt_range)
    · rw [sel_iff hs hg N hR x]
      constructor
      · rintro ⟨i, rfl, hi, k, hk, hm⟩
        exact List.mem_map.2 ⟨i, List.mem_filter.2 ⟨List.mem_range.2 hi, List.any_eq_true.2 ⟨k, List.mem_range.2 hk, hm⟩⟩, rfl⟩
      · intro h
        obtain ⟨i, hi, rfl⟩ := List.mem_map.1 h
        obtain ⟨h1, h2⟩ := List.mem_filter.1 hi
        obtain ⟨k, hk, hm⟩ := List.any_eq_true.1 h2
        exact ⟨i, rfl, List.mem_range.1 h1, k, List.mem_range.1 hk, hm⟩
  rw [e, List.map_map]
  apply List.map_congr_left
  intro i _
  simp

theorem hits_succ (R : Nat → List ByteArray) (N : Nat) (ss : List ByteArray) (i : Nat) : hits R N ss (i + 1) = hits R N ss i ++ if hitB R N ss i then [i] else [] := by
  unfold hits
  rw [List.range_succ, List.filter_append]
  congr 1
  cases h : hitB R N ss i <;> simp [h]
theorem hits_app (R : Nat → List ByteArray) (N : Nat) (ss : List ByteArray) (i : Nat) : ∀ d, ∃ t, hits R N ss (i + d) = hits R N ss i ++ t
  | 0 => ⟨[], by simp⟩
  | d + 1 => by
    obtain ⟨t, ht⟩ := hits_app R N ss i d
    rw [show i + (d + 1) = i + d + 1 by omega, hits_succ, ht, List.append_assoc]
    exact ⟨_, rfl⟩
/-- The hit at i is the next of the list. -/
theorem hits_at {R : Nat → List ByteArray} {N : Nat} {ss : List ByteArray} {i n : Nat} (hi : i < n) (h : hitB R N ss i = true) :
    (hits R N ss i).length < ((hits R N ss n).map (sg ss)).length ∧ sg ((hits R N ss n).map (sg ss)) (hits R N ss i).length = sg ss i := by
  obtain ⟨t, ht⟩ := hits_app R N ss (i + 1) (n - (i + 1))
  rw [show i + 1 + (n - (i + 1)) = n by omega, hits_succ, if_pos h] at ht
  rw [ht]
  constructor
  · simp
  · unfold sg
    rw [List.getD_eq_getElem?_getD, List.getElem?_map, List.append_assoc, List.getElem?_append_right (Nat.le_refl _)]
    simp
theorem hits_le (R : Nat → List ByteArray) (N : Nat) (ss : List ByteArray) (n : Nat) : (hits R N ss n).length ≤ n := by
  unfold hits
  exact Nat.le_trans (List.length_filter_le _ _) (by simp)
end Go.Proofs.Qxb6601214aDoor

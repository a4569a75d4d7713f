/- Seat b6601748aD: the map of a challenge's parameters, plain part. -/
import Derived.Test.Qxb6601748aDoorL
import Derived.Maps.OwnSet
import Derived.Maps.StringElems
namespace Go.Proofs.Qxb6601748aDoor
open Go.RowKit Go.PlainAid Go.Maps Go.WideShapes

/-- A name's key, a value's datum. -/
def kL (n : ByteArray) : Lit := .string (low n).data.toList
def vL (v : ByteArray) : DataW Unit := .lit (.string v.data.toList)
theorem kL_key (n : ByteArray) : WideAt.IsKeyLit (kL n) := trivial
theorem kL_inj {a b : ByteArray} : kL a = kL b ↔ low a = low b := by
  constructor
  · intro h
    have h2 : (low a).data.toList = (low b).data.toList := by
      unfold kL at h
      injection h
    exact ByteArray.ext (Array.toList_inj.1 h2)
  · intro h; unfold kL; rw [h]
/-- The parameters, one by one, put into a map. -/
def putAll (m : DataW Unit) (ps : List Pm) : DataW Unit := ps.foldl (fun m p => m.put (kL p.1) (vL p.2)) m
def mpD (ps : List Pm) : DataW Unit := putAll (.map []) ps
theorem mpD_nil : mpD [] = .map [] := rfl
theorem mpD_snoc (ps : List Pm) (p : Pm) : mpD (ps ++ [p]) = (mpD ps).put (kL p.1) (vL p.2) := by simp [mpD, putAll, List.foldl_append]
theorem putAll_isMap : ∀ (ps : List Pm) (m : DataW Unit), IsMap m → IsMap (putAll m ps)
  | [], _, h => h
  | _ :: ps, _, h => putAll_isMap ps _ (h.put _ _)
theorem putAll_at (k : Lit) (z : DataW Unit) : ∀ (ps : List Pm) (m : DataW Unit), (∀ p ∈ ps, k ≠ kL p.1) → (putAll m ps).atKey k z = m.atKey k z ∧ has (putAll m ps) k = has m k
  | [], _, _ => ⟨rfl, rfl⟩
  | p :: ps, m, h => by
    have h1 := putAll_at k z ps (m.put (kL p.1) (vL p.2)) (fun q hq => h q (List.mem_cons_of_mem _ hq))
    have hne := h p (List.mem_cons_self ..)
    exact ⟨h1.1.trans (atKey_put_other hne _ _), h1.2.trans (has_put_other hne _)⟩
theorem getD_ps (ps : List Pm) {j : Nat} (h : j < ps.length) : ps[j] = (pn ps j, pv ps j) := by simp [pn, pv, List.getD, h]
theorem later_mem (ps : List Pm) (j : Nat) (nm : ByteArray) : Later ps j nm ↔ ∃ p ∈ ps.drop (j + 1), low p.1 = nm := by
  constructor
  · rintro ⟨k, h1, h2, h3⟩
    refine ⟨ps[k], ?_, by rw [getD_ps ps h2]; exact h3⟩
    rw [List.mem_drop_iff_getElem]
    exact ⟨k - (j + 1), by omega, by congr 1; omega⟩
  · rintro ⟨p, hp, h⟩
    rw [List.mem_drop_iff_getElem] at hp
    obtain ⟨i, hi, rfl⟩ := hp
    have hi' : j + 1 + i < ps.length := by omega
    refine ⟨j + 1 + i, by omega, hi', ?_⟩
    rw [getD_ps ps hi'] at h
    exact h
/-- The last value given for a name is the one that is kept. -/
theorem mpD_at (ps : List Pm) (j : Nat) (hj : j < ps.length) (hl : ¬ Later ps j (low (pn ps j))) (z : DataW Unit) :
    (mpD ps).atKey (kL (pn ps j)) z = vL (pv ps j) ∧ has (mpD ps) (kL (pn ps j)) = true := by
  have e : ps = ps.take j ++ (pn ps j, pv ps j) :: ps.drop (j + 1) := by
    rw [← getD_ps ps hj, List.getElem_cons_drop, List.take_append_drop]
  have e2 : mpD ps = putAll ((mpD (ps.take j)).put (kL (pn ps j)) (vL (pv ps j))) (ps.drop (j + 1)) := by
    conv => lhs; rw [e]
    simp [mpD, putAll, List.foldl_append]
  have h := putAll_at (kL (pn ps j)) z (ps.drop (j + 1)) ((mpD (ps.take j)).put (kL (pn ps j)) (vL (pv ps j))) (fun p hp he => hl ((later_mem _ _ _).2 ⟨p, hp, (kL_inj.1 he).symm⟩))
  have hm : IsMap (mpD (ps.take j)) := putAll_isMap _ _ isMap_empty
  rw [e2]
  exact ⟨h.1.trans (atKey_put_same hm (kL_key _) _ _), h.2.trans (has_put_same hm (kL_key _) _)⟩

/-- A name's key, as bytes. -/
def kS (n : ByteArray) : List UInt8 := (low n).data.toList
/-- The keys, each at its last place. -/
def lasts : List (List UInt8) → List Lit
  | [] => []
  | k :: ks => if k ∈ ks then lasts ks else .string k :: lasts ks
theorem mem_lasts (x : Lit) : ∀ ks, x ∈ lasts ks ↔ ∃ k, k ∈ ks ∧ x = .string k
  | [] => by simp [lasts]
  | k :: ks => by
    unfold lasts
    split
    · rw [mem_lasts x ks]
      rename_i h
      constructor
      · rintro ⟨y, hy, e⟩; exact ⟨y, List.mem_cons_of_mem _ hy, e⟩
      · rintro ⟨y, hy, e⟩
        rcases List.mem_cons.1 hy with rfl | hy
        · exact ⟨y, h, e⟩
        · exact ⟨y, hy, e⟩
    · rw [List.mem_cons, mem_lasts x ks]
      constructor
      · rintro (e | ⟨y, hy, e⟩)
        · exact ⟨k, List.mem_cons_self .., e⟩
        · exact ⟨y, List.mem_cons_of_mem _ hy, e⟩
      · rintro ⟨y, hy, e⟩
        rcases List.mem_cons.1 hy with rfl | hy
        · exact Or.inl e
        · exact Or.inr ⟨y, hy, e⟩
theorem nodup_lasts : ∀ ks, (lasts ks).Nodup
  | [] => List.nodup_nil
  | k :: ks => by
    unfold lasts
    split
    · exact nodup_lasts ks
    · rename_i h
      refine List.nodup_cons.2 ⟨fun hx => ?_, nodup_lasts ks⟩
      obtain ⟨y, hy, e⟩ := (mem_lasts _ ks).1 hx
      injection e with e
      exact h (e ▸ hy)
theorem putAll_keys : ∀ (ps : List Pm) (es : List (Lit × DataW Unit)), (es.map (·.1)).Nodup →
    ∃ es', putAll (.map es) ps = .map es' ∧ (es'.map (·.1)).Nodup ∧ ∀ k, k ∈ es'.map (·.1) ↔ (k ∈ es.map (·.1) ∨ k ∈ ps.map (fun p => kL p.1))
  | [], es, h => ⟨es, rfl, h, fun k => by simp⟩
  | p :: ps, es, h => by
    let es1 := DataW.insert (kL p.1, vL p.2) (es.filter fun q => !q.1.sameKey (kL p.1))
    have hp1 : (es1.map (·.1)).Perm (kL p.1 :: (es.filter fun q => !q.1.sameKey (kL p.1)).map (·.1)) := (insert_perm (kL p.1, vL p.2) _).map _
    have hmf : ∀ k, k ∈ (es.filter fun q => !q.1.sameKey (kL p.1)).map (·.1) ↔ (k ∈ es.map (·.1) ∧ k ≠ kL p.1) := by
      intro k
      simp only [List.mem_map, List.mem_filter]
      constructor
      · rintro ⟨q, ⟨hq, hn⟩, rfl⟩
        refine ⟨⟨q, hq, rfl⟩, fun e => ?_⟩
        rw [e, WideAt.sameKey_self (kL_key _)] at hn
        cases hn
      · rintro ⟨⟨q, hq, rfl⟩, hn⟩
        exact ⟨q, ⟨hq, by rw [sameKey_ne hn]; rfl⟩, rfl⟩
    have hn1 : (es1.map (·.1)).Nodup := hp1.nodup_iff.2 (List.nodup_cons.2 ⟨fun hx => ((hmf _).1 hx).2 rfl, (List.filter_sublist.map _).nodup h⟩)
    obtain ⟨es', e1, e2, e3⟩ := putAll_keys ps es1 hn1
    refine ⟨es', e1, e2, fun k => ?_⟩
    rw [e3, hp1.mem_iff, List.mem_cons, hmf, List.map_cons, List.mem_cons]
    by_cases hk : k = kL p.1
    · simp [hk]
    · simp [hk]
/-- How many entries the map has. -/
theorem mpD_size (ps : List Pm) : Maps.size (mpD ps) = (lasts (ps.map fun p => kS p.1)).length := by
  obtain ⟨es, e1, e2, e3⟩ := putAll_keys ps [] List.nodup_nil
  have e4 : Maps.size (mpD ps) = es.length := by unfold mpD; rw [e1]; rfl
  rw [e4]
  have e5 : es.length = (es.map (·.1)).length := by simp
  rw [e5]
  refine List.Perm.length_eq ((List.perm_ext_iff_of_nodup e2 (nodup_lasts _)).2 fun k => ?_)
  rw [e3, mem_lasts]
  simp only [List.map_nil, List.not_mem_nil, false_or, List.mem_map]
  constructor
  · rintro ⟨p, hp, rfl⟩; exact ⟨_, ⟨p, hp, rfl⟩, rfl⟩
  · rintro ⟨_, ⟨p, hp, rfl⟩, rfl⟩; exact ⟨p, hp, rfl⟩
/-- What is still to be counted from the j-th parameter on. -/
def toCount (ps : List Pm) (j : Nat) : Nat := (lasts ((ps.drop j).map fun p => kS p.1)).length
theorem toCount_zero (ps : List Pm) : toCount ps 0 = Maps.size (mpD ps) := by rw [mpD_size]; rfl
theorem toCount_end (ps : List Pm) : toCount ps ps.length = 0 := by simp [toCount, lasts]
theorem toCount_step (ps : List Pm) {j : Nat} (h : j < ps.length) : (Later ps j (low (pn ps j)) → toCount ps j = toCount ps (j + 1)) ∧ (¬ Later ps j (low (pn ps j)) → toCount ps j = toCount ps (j + 1) + 1) := by
  have e : ps.drop j = (pn ps j, pv ps j) :: ps.drop (j + 1) := by rw [← getD_ps ps h, List.getElem_cons_drop]
  have hm : kS (pn ps j) ∈ (ps.drop (j + 1)).map (fun p => kS p.1) ↔ Later ps j (low (pn ps j)) := by
    rw [later_mem, List.mem_map]
    constructor
    · rintro ⟨p, hp, hk⟩; exact ⟨p, hp, kL_inj.1 (congrArg Lit.string hk)⟩
    · rintro ⟨p, hp, hk⟩; exact ⟨p, hp, by unfold kS; rw [hk]⟩
  unfold toCount
  rw [e, List.map_cons, lasts]
  constructor
  · intro hl; rw [if_pos (hm.2 hl)]
  · intro hl; rw [if_neg (fun hx => hl (hm.1 hx))]; rfl
theorem toCount_le (ps : List Pm) (j : Nat) : toCount ps j ≤ ps.length := by
  have hl : ∀ ks : List (List UInt8), (lasts ks).length ≤ ks.length := by
    intro ks
    induction ks with
    | nil => simp [lasts]
    | cons k ks ih =>
      unfold lasts
      split
      · simp; omega
      · simp; omega
  have h1 := hl ((ps.drop j).map fun p => kS p.1)
  have h2 : ((ps.drop j).map fun p => kS p.1).length ≤ ps.length := by simp
  exact Nat.le_trans h1 h2
end Go.Proofs.Qxb6601748aDoor

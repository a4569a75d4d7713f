/- Seat b6601214aD: zzGitPath. -/
import Derived.Test.Qxb6601214aDoorC
import Derived.Test.Qxb6601214aDoorP
namespace Go.Proofs.Qxb6601214aDoor
open Go.RowKit Go.PlainAid

def OkSeg (p : List UInt8) : Prop := p ≠ [] ∧ p ≠ [46]
def Git (l : List UInt8) : Prop := ∀ p ∈ cut l, OkSeg p

/-- The state of the scan: the pieces ahead of 'st' are good; no slash in [st, k). -/
def GitAt (s : ByteArray) (st k : Nat) : Prop := st ≤ k ∧ k ≤ s.size ∧ (∀ j, st ≤ j → j < k → bt s j ≠ 47) ∧ ((∀ p ∈ cut (s.data.toList.drop st), OkSeg p) → Git s.data.toList)

theorem bt_get (s : ByteArray) (k : Nat) (h : k < s.data.toList.length) : bt s k = ((s.data.toList[k]).toNat : Int) := by
  unfold bt; rw [dif_pos (by simpa using h)]; rfl

theorem seg_noslash {s : ByteArray} {st k : Nat} (hk : k ≤ s.size) (h : ∀ j, st ≤ j → j < k → bt s j ≠ 47) : (47 : UInt8) ∉ (s.data.toList.drop st).take (k - st) := by
  intro hm
  obtain ⟨j, hj, e⟩ := List.mem_iff_getElem.1 hm
  have hl : s.data.toList.length = s.size := by simp
  rw [List.length_take, List.length_drop] at hj
  rw [List.getElem_take, List.getElem_drop] at e
  apply h (st + j) (by omega) (by omega)
  rw [bt_get s (st + j) (by omega), e]; rfl

theorem seg_split {s : ByteArray} {st k : Nat} (h1 : st ≤ k) (h2 : k < s.size) (h47 : bt s k = 47) : s.data.toList.drop st = (s.data.toList.drop st).take (k - st) ++ 47 :: s.data.toList.drop (k + 1) := by
  have hl : s.data.toList.length = s.size := by simp
  have e1 := (List.take_append_drop (k - st) (s.data.toList.drop st)).symm
  have e3 : s.data.toList.drop k = s.data.toList[k]'(by omega) :: s.data.toList.drop (k + 1) := List.drop_eq_getElem_cons (by omega)
  rw [List.drop_drop, show st + (k - st) = k by omega, e3] at e1
  have e2 : s.data.toList[k]'(by omega) = 47 := by
    have := bt_get s k (by omega)
    rw [h47] at this
    exact UInt8.toNat_inj.1 (show _ = 47 by omega)
  rw [e2] at e1
  exact e1

theorem GitAt.slash {s : ByteArray} {st k : Nat} (h : GitAt s st k) (hk : k < s.size) (h47 : bt s k = 47) (hok : OkSeg ((s.data.toList.drop st).take (k - st))) : GitAt s (k + 1) (k + 1) := by
  refine ⟨Nat.le_refl _, hk, fun j h1 h2 => by omega, fun hr => h.2.2.2 fun p hp => ?_⟩
  rw [seg_split h.1 hk h47, cut_app _ _ (seg_noslash h.2.1 h.2.2.1)] at hp
  rcases List.mem_cons.1 hp with rfl | hp
  · exact hok
  · exact hr p hp
theorem GitAt.done {s : ByteArray} {st : Nat} (h : GitAt s st s.size) (hok : OkSeg ((s.data.toList.drop st).take (s.size - st))) : Git s.data.toList := by
  have hl : s.data.toList.length = s.size := by simp
  have hns := seg_noslash h.2.1 h.2.2.1
  rw [List.take_of_length_le (by rw [List.length_drop]; omega)] at hns hok
  refine h.2.2.2 fun p hp => ?_
  rw [cut_none _ hns] at hp
  simp at hp; subst hp; exact hok
theorem ok_seg {s : ByteArray} {st k : Nat} (h1 : st ≤ k) (h2 : k ≤ s.size) (h3 : k ≠ st) (h4 : k = st + 1 → bt s st ≠ 46) : OkSeg ((s.data.toList.drop st).take (k - st)) := by
  have hl : s.data.toList.length = s.size := by simp
  constructor
  · intro e
    have := congrArg List.length e
    rw [List.length_take, List.length_drop] at this
    simp at this; omega
  · intro e
    have hlen := congrArg List.length e
    rw [List.length_take, List.length_drop] at hlen
    simp at hlen
    have hk : k = st + 1 := by omega
    have := congrArg (fun l : List UInt8 => l[0]?) e
    rw [List.getElem?_take_of_lt (by omega), List.getElem?_drop, List.getElem?_eq_getElem (by omega)] at this
    apply h4 hk
    rw [bt_get s st (by omega)]
    simp at this
    simp [this]

set_option maxHeartbeats 400000 in
theorem zzGit_any (s : ByteArray) (w : World) (hs : s.size ≤ 1048576) :
    Calls Tryd.prog 9 #[.string s] w fun e w' => (e = .returned (.bool false) ∨ (e = .returned (.bool true) ∧ Hid (Git s.data.toList))) ∧ w' = w := by
  have hg := get_bt s
  go_enter Tryd.func9, Tryd.ntmps9
  go_wp2
  go_loop [3, 4, 5] (fun a i _ => (∃ st k : Nat, a = .int .i64 st ∧ i = .int .i64 k ∧ st ≤ k ∧ k ≤ s.size ∧ Hid (GitAt s st k)) ∨ (∃ st : Nat, a = .int .i64 st ∧ i = .int .i64 (s.size + 1 : Nat) ∧ Hid (Git s.data.toList))) (fun _ i _ => s.size + 1 - (intOf i).toNat)
  case atStart => exact Or.inl ⟨0, 0, rfl, rfl, Nat.le_refl _, Nat.zero_le _, ⟨Nat.le_refl _, Nat.zero_le _, fun j h1 h2 => by omega, fun h => h⟩⟩
  case round =>
    rcases hrel with ⟨st, k, rfl, rfl, hst, hk, hG⟩ | ⟨st, rfl, rfl, hG⟩
    · by_cases hlt : k < s.size
      · have hne : ((k : Int) == (s.size : Int)) = false := by simp; omega
        by_cases h47 : bt s k = 47
        · have h47' : (bt s k == 47) = true := by simp [h47]
          have H47 : Hid (bt s k = 47) := h47
          clear h47
          by_cases h0 : k = st
          · have h0' : (((k : Int) - (st : Int)) == 0) = true := by simp; omega
            clear h0
            go_wp2
            go_ret
            exact ⟨Or.inl rfl, rfl⟩
          · have h0' : (((k : Int) - (st : Int)) == 0) = false := by simp; omega
            by_cases h1 : k = st + 1 ∧ bt s st = 46
            · have h1' : (((k : Int) - (st : Int)) == 1) = true := by simp; omega
              have h2' : (bt s st == 46) = true := by simp [h1.2]
              have hss : st < s.size := by omega
              clear h1 h0
              go_wp2
              go_ret
              exact ⟨Or.inl rfl, rfl⟩
            · have hok : Hid (GitAt s (k + 1) (k + 1)) := hG.out.slash hlt H47.out (ok_seg hst hk h0 (fun e h => h1 ⟨e, h⟩))
              by_cases h2 : k = st + 1
              · have h1' : (((k : Int) - (st : Int)) == 1) = true := by simp; omega
                have h2' : (bt s st == 46) = false := by simp; exact fun h => h1 ⟨h2, h⟩
                have hss : st < s.size := by omega
                clear h1 h2 h0
                go_wp2
                go_round
                case rel => exact Or.inl ⟨k + 1, k + 1, by go_num, by go_num, Nat.le_refl _, hlt, hok⟩
                case measure => simp [intOf]; omega
              · have h1' : (((k : Int) - (st : Int)) == 1) = false := by simp; omega
                clear h1 h2 h0
                go_wp2
                go_round
                case rel => exact Or.inl ⟨k + 1, k + 1, by go_num, by go_num, Nat.le_refl _, hlt, hok⟩
                case measure => simp [intOf]; omega
        · have h47' : (bt s k == 47) = false := by simp [h47]
          have hok : Hid (GitAt s st (k + 1)) := ⟨by omega, hlt, fun j h1 h2 => by rcases Nat.lt_or_ge j k with h | h; exact hG.out.2.2.1 j h1 h; rw [show j = k by omega]; exact h47, hG.out.2.2.2⟩
          clear h47
          go_wp2
          go_round
          case rel => exact Or.inl ⟨st, k + 1, rfl, by go_num, by omega, hlt, hok⟩
          case measure => simp [intOf]; omega
      · obtain rfl : k = s.size := by omega
        have hne : ((s.size : Int) == (s.size : Int)) = true := by simp
        by_cases h0 : s.size = st
        · have h0' : (((s.size : Int) - (st : Int)) == 0) = true := by simp; omega
          clear h0
          go_wp2
          go_ret
          exact ⟨Or.inl rfl, rfl⟩
        · have h0' : (((s.size : Int) - (st : Int)) == 0) = false := by simp; omega
          have hss : st < s.size := by omega
          by_cases h1 : s.size = st + 1 ∧ bt s st = 46
          · have h1' : (((s.size : Int) - (st : Int)) == 1) = true := by simp; omega
            have h2' : (bt s st == 46) = true := by simp [h1.2]
            clear h1 h0
            go_wp2
            go_ret
            exact ⟨Or.inl rfl, rfl⟩
          · have hok : Hid (Git s.data.toList) := hG.out.done (ok_seg hst hk h0 (fun e h => h1 ⟨e, h⟩))
            by_cases h2 : s.size = st + 1
            · have h1' : (((s.size : Int) - (st : Int)) == 1) = true := by simp; omega
              have h2' : (bt s st == 46) = false := by simp; exact fun h => h1 ⟨h2, h⟩
              clear h1 h2 h0
              go_wp2
              go_round
              case rel => exact Or.inr ⟨s.size + 1, by go_num, by go_num, hok⟩
              case measure => simp [intOf]
            · have h1' : (((s.size : Int) - (st : Int)) == 1) = false := by simp; omega
              clear h1 h2 h0
              go_wp2
              go_round
              case rel => exact Or.inr ⟨s.size + 1, by go_num, by go_num, hok⟩
              case measure => simp [intOf]
    · go_wp2
      go_ret
      exact ⟨Or.inr rfl, rfl⟩
end Go.Proofs.Qxb6601214aDoor

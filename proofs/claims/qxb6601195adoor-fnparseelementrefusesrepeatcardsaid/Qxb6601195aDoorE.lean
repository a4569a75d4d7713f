/- Walk of seat b6601195aD: parseElement. -/
import Derived.Test.Qxb6601195aDoorD
import Derived.Deep.RegionWith
namespace Go.Proofs.Qxb6601195aDoor
open Go.RowKit Go.PlainAid

def Skip (s : ByteArray) (i j : Nat) : Prop := i ≤ j ∧ j ≤ s.size ∧ (∀ k, i ≤ k → k < j → blB (bt s k) = true) ∧ (j < s.size → blB (bt s j) = false)

theorem skip_calls {s : ByteArray} {i j : Nat} (h : Skip s i j) (w : World) (hs : s.size ≤ 16777216) :
    Calls Tryd.prog 13 #[.string s, .int .i64 i] w fun e w' => e = .returned (.int .i64 j) ∧ w' = w :=
  skipSpace_any s i j w (by unfold maxLen; omega) h.1 h.2.1 h.2.2.1 h.2.2.2

/-- A pair NAME="VALUE" that begins behind blanks at i: the name lies in [j, q), the value ends at e, the blanks behind it at m. -/
structure IsPair (s : ByteArray) (i j q e m : Nat) (l : List UInt8) (isF isP : Bool) : Prop where
  skip : Skip s i j
  jq : j < q
  letters : ∀ k, j ≤ k → k < q → (97 ≤ bt s k ∧ bt s k ≤ 122) ∨ (65 ≤ bt s k ∧ bt s k ≤ 90)
  eqAt : q < s.size ∧ bt s q = 61
  val : ∃ all, At s (q + 1) (34 :: (escs all l ++ [34])) ∧ e = q + 1 + (escs all l).length + 2
  skip2 : Skip s e m
  hF : Lib.equalFold (s.extract j q).data.toList [102, 111, 114] = isF
  hP : Lib.equalFold (s.extract j q).data.toList [112, 114, 111, 116, 111] = isP

structure PSt where
  i : Nat
  pairs : Nat
  gf : Bool
  gp : Bool
  node : ByteArray
  proto : ByteArray

/-- What one round of parseElement's loop comes to. -/
def Step (s : ByteArray) (I : PSt → Prop) (F : ByteArray → ByteArray → Nat → Nat → Bool → Prop) (st : PSt) : Prop :=
  (∃ j, Skip s st.i j ∧ j < s.size ∧ bt s j = 44 ∧ F st.node st.proto j st.pairs true) ∨
  (∃ j, Skip s st.i j ∧ j < s.size ∧ bt s j = 59 ∧ I { st with i := j + 1 }) ∨
  (∃ j q e m l isF isP, IsPair s st.i j q e m l isF isP ∧
    ((isF = true ∧ isP = false ∧ st.gf = false ∧ m < s.size ∧ (bt s m = 59 ∨ bt s m = 44) ∧ I { st with i := m, pairs := st.pairs + 1, gf := true, node := ⟨l.toArray⟩ }) ∨
     (isF = false ∧ isP = true ∧ st.gp = false ∧ m < s.size ∧ (bt s m = 59 ∨ bt s m = 44) ∧ I { st with i := m, pairs := st.pairs + 1, gp := true, proto := ⟨l.toArray⟩ }) ∨
     (m < s.size ∧ bt s m ≠ 59 ∧ bt s m ≠ 44 ∧ F ⟨#[]⟩ ⟨#[]⟩ m st.pairs false) ∨
     ((isF = true ∧ isP = false ∧ st.gf = true ∨ isF = false ∧ isP = true ∧ st.gp = true) ∧ (m < s.size → bt s m = 59 ∨ bt s m = 44) ∧ F ⟨#[]⟩ ⟨#[]⟩ m st.pairs false)))

theorem two_cell0 {w : World} {b : Nat} {x y : Value} {t : TypeId} (h : w.heap[b]? = some (.cells #[x, y] t (0, 0))) : w.cell? ⟨b, 0, none⟩ = some x := by
  rw [Lib.cell_of_heap h]; rfl
theorem two_cell1 {w : World} {b : Nat} {x y : Value} {t : TypeId} (h : w.heap[b]? = some (.cells #[x, y] t (0, 0))) : w.cell? ⟨b, 1, none⟩ = some y := by
  rw [Lib.cell_of_heap h]; rfl

theorem two_set0 {w : World} {b : Nat} {x y : Value} {t : TypeId} (h : w.heap[b]? = some (.cells #[x, y] t (0, 0))) (u : Value) : (w.setCell ⟨b, 0, none⟩ u).heap[b]? = some (.cells #[u, y] t (0, 0)) := by
  rw [heap_setCell_same w b 0 _ t u h]; rfl
theorem two_set1 {w : World} {b : Nat} {x y : Value} {t : TypeId} (h : w.heap[b]? = some (.cells #[x, y] t (0, 0))) (u : Value) : (w.setCell ⟨b, 1, none⟩ u).heap[b]? = some (.cells #[x, u] t (0, 0)) := by
  rw [heap_setCell_same w b 1 _ t u h]; rfl
/-- Behind a store of a whole pair of strings: the two cells. -/
theorem two_store {w : World} {b : Nat} {x y : Value} {t : TypeId} (h : w.heap[b]? = some (.cells #[x, y] t (0, 0))) :
    (∀ u, (w.setCell ⟨b, 0, none⟩ u).cell? ⟨b, 0, none⟩ = some u) ∧ (∀ u v, ((w.setCell ⟨b, 0, none⟩ u).setCell ⟨b, 1, none⟩ v).cell? ⟨b, 1, none⟩ = some v) :=
  ⟨fun u => two_cell0 (two_set0 h u), fun u v => two_cell1 (two_set1 (two_set0 h u) v)⟩

theorem kept_two {w w2 : World} {b : Nat} {o : Obj} (hb : Below w.heap.size w w2) (h : w.heap[b]? = some o) : w2.heap[b]? = some o := by
  rw [hb.block b (by rcases Nat.lt_or_ge b w.heap.size with h' | h'; exact h'; simp [Array.getElem?_eq_none h'] at h), h]

theorem parseValue_at (s : ByteArray) (q e : Nat) (l : List UInt8) (all : Bool) (w : World) (hs : s.size ≤ 16777216) (hat : At s (q + 1) (34 :: (escs all l ++ [34]))) (he : Hid (e = q + 1 + (escs all l).length + 2)) :
    Calls Tryd.prog 15 #[.string s, .int .i64 ((q : Int) + 1)] w fun r w' =>
      r = .returned (.tuple #[.string ⟨l.toArray⟩, .int .i64 (e : Nat), .bool true]) ∧ Below w.heap.size w w' := by
  rw [he.out]
  exact parseValue_any s (q + 1) l all w hs hat

theorem ascii_lit (t : List UInt8) (h : t.all (fun b => decide (b.toNat < 128)) = true) : ∀ (j : Nat) b, t[j]? = some b → b.toNat < 128 := by
  intro j b hb
  have := List.all_eq_true.1 h b (List.mem_of_getElem? hb)
  simpa using this

theorem extract_get (s : ByteArray) (j q k : Nat) (b : UInt8) (h : (s.extract j q).data.toList[k]? = some b) : j + k < q ∧ bt s (j + k) = (b.toNat : Int) := by
  rw [Lib.extract_data] at h
  have hk : k < q - j := by
    rcases Nat.lt_or_ge k (q - j) with h1 | h1
    · exact h1
    · rw [List.getElem?_eq_none (by rw [List.length_take]; omega)] at h; cases h
  rw [List.getElem?_take_of_lt hk, List.getElem?_drop] at h
  have := bt_list _ _ _ h
  exact ⟨by omega, this⟩

theorem name_ne {s : ByteArray} {j q : Nat} (h : j < q) (hq : q ≤ s.size) : (s.extract j q).toList.isEmpty = false := by
  have : (s.extract j q).toList.length = q - j := by
    rw [ByteArray.toList_eq, Lib.extract_data, List.length_take, List.length_drop]
    simp; omega
  cases hl : (s.extract j q).toList with
  | nil => rw [hl] at this; simp at this; omega
  | cons _ _ => rfl

theorem name_ascii {s : ByteArray} {j q : Nat} (h : ∀ k, j ≤ k → k < q → (97 ≤ bt s k ∧ bt s k ≤ 122) ∨ (65 ≤ bt s k ∧ bt s k ≤ 90)) : ∀ (k : Nat) b, (s.extract j q).data.toList[k]? = some b → b.toNat < 128 := by
  intro k b hb
  obtain ⟨h1, h2⟩ := extract_get s j q k b hb
  have := h (j + k) (by omega) h1
  omega

theorem fold_for {s : ByteArray} {j q : Nat} (isF : Bool) (w : World) (hs : s.size ≤ 16777216) (hL : Hid (∀ k, j ≤ k → k < q → (97 ≤ bt s k ∧ bt s k ≤ 122) ∨ (65 ≤ bt s k ∧ bt s k ≤ 90)))
    (hF : Hid (Lib.equalFold (s.extract j q).data.toList [102, 111, 114] = isF)) :
    Calls Tryd.prog 16 #[.string (s.extract j q), .string ⟨#[102, 111, 114]⟩] w fun e w' => e = .returned (.bool isF) ∧ w' = w := by
  rw [← hF.out]
  exact Tryd.strings_EqualFold _ _ w (by simp; omega) (name_ascii hL.out) (ascii_lit _ (by decide))
theorem fold_proto {s : ByteArray} {j q : Nat} (isP : Bool) (w : World) (hs : s.size ≤ 16777216) (hL : Hid (∀ k, j ≤ k → k < q → (97 ≤ bt s k ∧ bt s k ≤ 122) ∨ (65 ≤ bt s k ∧ bt s k ≤ 90)))
    (hP : Hid (Lib.equalFold (s.extract j q).data.toList [112, 114, 111, 116, 111] = isP)) :
    Calls Tryd.prog 16 #[.string (s.extract j q), .string ⟨#[112, 114, 111, 116, 111]⟩] w fun e w' => e = .returned (.bool isP) ∧ w' = w := by
  rw [← hP.out]
  exact Tryd.strings_EqualFold _ _ w (by simp; omega) (name_ascii hL.out) (ascii_lit _ (by decide))

set_option maxHeartbeats 1000000 in
set_option maxRecDepth 100000 in
theorem parseElement_any (s : ByteArray) (I : PSt → Prop) (F : ByteArray → ByteArray → Nat → Nat → Bool → Prop) (w : World) (hs : s.size ≤ 16777216)
    (hstep : ∀ st, I st → st.i ≤ s.size → st.pairs ≤ st.i → Step s I F st) (h0 : I ⟨0, 0, false, false, ⟨#[]⟩, ⟨#[]⟩⟩) :
    Calls Tryd.prog 12 #[.string s, .int .i64 0] w fun e w' => ∃ node proto i pairs ok, e = .returned (.tuple #[.agg #[.string node, .string proto], .int .i64 (i : Nat), .int .i64 (pairs : Nat), .bool ok]) ∧ F node proto i pairs ok ∧ Below w.heap.size w w' := by
  have HS := hstep
  have HStep : Hid (∀ st, I st → st.i ≤ s.size → st.pairs ≤ st.i → Step s I F st) := hstep
  clear hstep HS
  go_enter Tryd.func12, Tryd.ntmps12
  go_wp2
  go_loopw [1, 9, 10, 11] (fun x y f g wr => ∃ st : PSt, I st ∧ st.i ≤ s.size ∧ st.pairs ≤ st.i ∧ x = .int .i64 st.i ∧ y = .int .i64 st.pairs ∧ f = .bool st.gf ∧ g = .bool st.gp ∧
      wr.heap[w.heap.size]? = some (.cells #[.string ⟨#[]⟩, .string ⟨#[]⟩] 33 (0, 0)) ∧ wr.heap[w.heap.size + 1]? = some (.cells #[.string st.node, .string st.proto] 33 (0, 0)) ∧ Below w.heap.size w wr)
    (fun x _ _ _ _ => s.size - (intOf x).toNat)
  case atStart =>
    refine ⟨_, h0, Nat.zero_le _, Nat.le_refl _, rfl, rfl, rfl, rfl, ?_, ?_, ((Below.refl _ _).alloc (Nat.le_refl _) _).alloc (by simp) _⟩
    · rw [Below.heap_alloc _ _ _ (by simp)]; exact heap_alloc_new _ _
    · have := heap_alloc_new (w.alloc (.cells #[.string ⟨#[]⟩, .string ⟨#[]⟩] 33)) (.cells #[.string ⟨#[]⟩, .string ⟨#[]⟩] 33)
      rw [World.size_alloc] at this; exact this
  case round =>
    obtain ⟨st, hI, hi1, hi2, rfl, rfl, rfl, rfl, hb4, hb8, hbel⟩ := hrel
    have hst := HStep.out st hI hi1 hi2
    clear HStep hI h0
    have c40 := two_cell0 hb4
    have c41 := two_cell1 hb4
    have c80 := two_cell0 hb8
    have c81 := two_cell1 hb8
    have f40 : wr.frozen? ⟨w.heap.size, 0, none⟩ = false := Lib.frozen_of_heap hb4 0
    have f41 : wr.frozen? ⟨w.heap.size, 1, none⟩ = false := Lib.frozen_of_heap hb4 1
    have f80 : wr.frozen? ⟨w.heap.size + 1, 0, none⟩ = false := Lib.frozen_of_heap hb8 0
    have f81 : wr.frozen? ⟨w.heap.size + 1, 1, none⟩ = false := Lib.frozen_of_heap hb8 1
    have HB4 : Hid (wr.heap[w.heap.size]? = some (.cells #[.string ⟨#[]⟩, .string ⟨#[]⟩] 33 (0, 0))) := hb4
    have HB8 : Hid (wr.heap[w.heap.size + 1]? = some (.cells #[.string st.node, .string st.proto] 33 (0, 0))) := hb8
    clear hb4 hb8
    have hg := get_bt s
    obtain ⟨si, sp, gf, gp, node, proto⟩ := st
    rcases hst with ⟨j, hsk, hj, hc, hF⟩ | ⟨j, hsk, hj, hc, hF⟩ | ⟨j, q, e, m, l, isF, isP, hp, hrest⟩
    · have hc1 : (bt s j == 44) = true := by rw [hc]; rfl
      have hc2 : (((j : Int)) == (s.size : Int)) = false := by simp; omega
      have HF : Hid (F node proto j sp true) := hF
      clear hc hF
      go_wp2_with (go_at_call 13; refine (skip_calls hsk _ hs).mono ?_; rintro e w' ⟨rfl, rfl⟩)
      refine bodyPost_ret (v := .tuple #[.agg #[.string node, .string proto], .int .i64 j, .int .i64 sp, .bool true]) ?_ rfl ⟨node, proto, j, sp, true, rfl, HF.out, ?_⟩
      · simp [results, Tryd.results12, go_sem, (two_store HB4.out).1, (two_store HB4.out).2]
      · exact (hbel.setCell (Nat.le_refl _) _).setCell (Nat.le_refl _) _
    · have hc0 : (bt s j == 44) = false := by rw [hc]; rfl
      have hc1 : (bt s j == 59) = true := by rw [hc]; rfl
      have hc2 : (((j : Int)) == (s.size : Int)) = false := by simp; omega
      have HF : Hid (I ⟨j + 1, sp, gf, gp, node, proto⟩) := hF
      have hij := hsk.1
      clear hc hF
      go_wp2_with (go_at_call 13; refine (skip_calls hsk _ hs).mono ?_; rintro e w' ⟨rfl, rfl⟩)
      go_roundw
      case rel => exact ⟨_, HF.out, by simp; omega, by simp at hij ⊢; omega, by go_num, rfl, rfl, rfl, HB4.out, HB8.out, hbel⟩
      case measure => simp [intOf] at hij ⊢; omega
    · obtain ⟨hsk, hjq, hlet, ⟨hq1, hq2⟩, ⟨all, hval, he⟩, hsk2, hF, hP⟩ := hp
      have HL : Hid (∀ k, j ≤ k → k < q → (97 ≤ bt s k ∧ bt s k ≤ 122) ∨ (65 ≤ bt s k ∧ bt s k ≤ 90)) := hlet
      have hl0 := hlet j (Nat.le_refl _) hjq
      have HE : Hid (e = q + 1 + (escs all l).length + 2) := he
      have hc0 : (bt s j == 44) = false := by simp; omega
      have hc1 : (bt s j == 59) = false := by simp; omega
      have hc2 : (((j : Int)) == (s.size : Int)) = false := by simp; omega
      have hjs : j < s.size := by omega
      have hij := hsk.1
      have hqe : q < e := by omega
      have hem := hsk2.1
      have hms := hsk2.2.1
      have HSK2 := hsk2
      have HREST : Hid _ := hrest
      have HF : Hid (Lib.equalFold (s.extract j q).data.toList [102, 111, 114] = isF) := hF
      have HP : Hid (Lib.equalFold (s.extract j q).data.toList [112, 114, 111, 116, 111] = isP) := hP
      have hne := name_ne hjq (Nat.le_of_lt hq1)
      have hqs : ((q : Int) == (s.size : Int)) = false := by simp; omega
      clear hlet he hl0 hrest hF hP
      go_wp2_with (go_at_call 13; refine (skip_calls hsk _ hs).mono ?_; rintro e w' ⟨rfl, rfl⟩)
      go_loop [1] (fun x => ∃ k : Nat, j ≤ k ∧ k ≤ q ∧ x = .int .i64 k) (fun x => s.size - (intOf x).toNat)
      case atStart => exact ⟨j, Nat.le_refl _, by omega, rfl⟩
      case round =>
        obtain ⟨k, hk1, hk2, rfl⟩ := hrel
        by_cases hlt : k < q
        · have hl := HL.out k hk1 hlt
          have hks : k < s.size := by omega
          go_wp2_with (go_at_call 14; refine (isTokenChar_yes _ _ hl).mono ?_; rintro e w' ⟨rfl, rfl⟩)
          go_round
          case rel => exact ⟨k + 1, by omega, by omega, by go_num⟩
          case measure => simp [intOf]; omega
        · obtain rfl : k = q := by omega
          rcases HREST.out with ⟨rfl, rfl, hgf, hm, hend, hI⟩ | ⟨rfl, rfl, hgp, hm, hend, hI⟩ | ⟨hm, hm1, hm2, hfin⟩ | ⟨hrep, hend, hfin⟩
          · obtain rfl : gf = false := hgf
            have HI : Hid (I ⟨m, sp + 1, true, gp, ⟨l.toArray⟩, proto⟩) := hI
            clear HREST hI
            have hend2 : (bt s m != 59) = false ∨ ((bt s m != 59) = true ∧ (bt s m != 44) = false) := by
              simp; omega
            clear hend
            rcases hend2 with hm1 | ⟨hm1, hm2⟩
            all_goals
              go_wp2_with (first
                | (go_at_call 14; refine (isTokenChar_eq _).mono ?_; rintro e w' ⟨rfl, rfl⟩)
                | (go_at_call 15; refine (parseValue_at _ _ _ _ _ _ hs hval HE).mono ?_; rintro e w2 ⟨rfl, hb2⟩; have hb4 := kept_two hb2 HB4.out; have hb8 := kept_two hb2 HB8.out; have c40 := two_cell0 hb4; have c41 := two_cell1 hb4; have f40 := Lib.frozen_of_heap hb4 0; have f41 := Lib.frozen_of_heap hb4 1; have c80 := two_cell0 hb8; have c81 := two_cell1 hb8; have f80 := Lib.frozen_of_heap hb8 0; have f81 := Lib.frozen_of_heap hb8 1; have HB42 : Hid (w2.heap[w.heap.size]? = some (.cells #[.string ⟨#[]⟩, .string ⟨#[]⟩] 33 (0, 0))) := hb4; have HB82 : Hid (w2.heap[w.heap.size + 1]? = some (.cells #[.string node, .string proto] 33 (0, 0))) := hb8; clear hb4 hb8)
                | (go_at_call 13; refine (skip_calls hsk2 _ hs).mono ?_; rintro e w' ⟨rfl, rfl⟩)
                | (go_at_call_of 16 (Value.string ⟨#[102, 111, 114]⟩); refine (fold_for _ _ hs HL HF).mono ?_; rintro e w' ⟨rfl, rfl⟩)
                | (go_at_call 16; refine (fold_proto _ _ hs HL HP).mono ?_; rintro e w' ⟨rfl, rfl⟩))
              go_roundw
              case rel => exact ⟨_, HI.out, by simp; omega, by simp; omega, rfl, by go_num, rfl, rfl, (Below.heap_setCell _ _ _ _ (by simp)).trans HB42.out, two_set0 HB82.out _, (hbel.trans (hb2.mono hbel.size)).setCell (by simp) _⟩
              case measure => simp [intOf]; omega
          · obtain rfl : gp = false := hgp
            have HI : Hid (I ⟨m, sp + 1, gf, true, node, ⟨l.toArray⟩⟩) := hI
            clear HREST hI
            have hend2 : (bt s m != 59) = false ∨ ((bt s m != 59) = true ∧ (bt s m != 44) = false) := by
              simp; omega
            clear hend
            rcases hend2 with hm1 | ⟨hm1, hm2⟩
            all_goals
              go_wp2_with (first
                | (go_at_call 14; refine (isTokenChar_eq _).mono ?_; rintro e w' ⟨rfl, rfl⟩)
                | (go_at_call 15; refine (parseValue_at _ _ _ _ _ _ hs hval HE).mono ?_; rintro e w2 ⟨rfl, hb2⟩; have hb4 := kept_two hb2 HB4.out; have hb8 := kept_two hb2 HB8.out; have c40 := two_cell0 hb4; have c41 := two_cell1 hb4; have f40 := Lib.frozen_of_heap hb4 0; have f41 := Lib.frozen_of_heap hb4 1; have c80 := two_cell0 hb8; have c81 := two_cell1 hb8; have f80 := Lib.frozen_of_heap hb8 0; have f81 := Lib.frozen_of_heap hb8 1; have HB42 : Hid (w2.heap[w.heap.size]? = some (.cells #[.string ⟨#[]⟩, .string ⟨#[]⟩] 33 (0, 0))) := hb4; have HB82 : Hid (w2.heap[w.heap.size + 1]? = some (.cells #[.string node, .string proto] 33 (0, 0))) := hb8; clear hb4 hb8)
                | (go_at_call 13; refine (skip_calls hsk2 _ hs).mono ?_; rintro e w' ⟨rfl, rfl⟩)
                | (go_at_call_of 16 (Value.string ⟨#[102, 111, 114]⟩); refine (fold_for _ _ hs HL HF).mono ?_; rintro e w' ⟨rfl, rfl⟩)
                | (go_at_call 16; refine (fold_proto _ _ hs HL HP).mono ?_; rintro e w' ⟨rfl, rfl⟩))
              go_roundw
              case rel => exact ⟨_, HI.out, by simp; omega, by simp; omega, rfl, by go_num, rfl, rfl, (Below.heap_setCell _ _ _ _ (by simp)).trans HB42.out, two_set1 HB82.out _, (hbel.trans (hb2.mono hbel.size)).setCell (by simp) _⟩
              case measure => simp [intOf]; omega
          · have HI : Hid (F ⟨#[]⟩ ⟨#[]⟩ m sp false) := hfin
            have hm3 : (bt s m != 59) = true := by simpa using hm1
            have hm4 : (bt s m != 44) = true := by simpa using hm2
            clear HREST hfin hm1 hm2
            · go_wp2_with (first
                | (go_at_call 14; refine (isTokenChar_eq _).mono ?_; rintro e w' ⟨rfl, rfl⟩)
                | (go_at_call 15; refine (parseValue_at _ _ _ _ _ _ hs hval HE).mono ?_; rintro e w2 ⟨rfl, hb2⟩; have hb4 := kept_two hb2 HB4.out; have hb8 := kept_two hb2 HB8.out; have c40 := two_cell0 hb4; have c41 := two_cell1 hb4; have f40 := Lib.frozen_of_heap hb4 0; have f41 := Lib.frozen_of_heap hb4 1; have c80 := two_cell0 hb8; have c81 := two_cell1 hb8; have f80 := Lib.frozen_of_heap hb8 0; have f81 := Lib.frozen_of_heap hb8 1; have HB42 : Hid (w2.heap[w.heap.size]? = some (.cells #[.string ⟨#[]⟩, .string ⟨#[]⟩] 33 (0, 0))) := hb4; have HB82 : Hid (w2.heap[w.heap.size + 1]? = some (.cells #[.string node, .string proto] 33 (0, 0))) := hb8; clear hb4 hb8)
                | (go_at_call 13; refine (skip_calls hsk2 _ hs).mono ?_; rintro e w' ⟨rfl, rfl⟩)
                | (go_at_call_of 16 (Value.string ⟨#[102, 111, 114]⟩); refine (fold_for _ _ hs HL HF).mono ?_; rintro e w' ⟨rfl, rfl⟩)
                | (go_at_call 16; refine (fold_proto _ _ hs HL HP).mono ?_; rintro e w' ⟨rfl, rfl⟩))
              refine bodyPost_ret (v := .tuple #[.agg #[.string ⟨#[]⟩, .string ⟨#[]⟩], .int .i64 m, .int .i64 sp, .bool false]) ?_ rfl ⟨_, _, m, sp, false, rfl, HI.out, ?_⟩
              · simp [results, Tryd.results12, go_sem, (two_store HB42.out).1, (two_store HB42.out).2]
              · exact ((hbel.trans (hb2.mono hbel.size)).setCell (Nat.le_refl _) _).setCell (Nat.le_refl _) _
          · have HI : Hid (F ⟨#[]⟩ ⟨#[]⟩ m sp false) := hfin
            clear HREST hfin
            have hend2 : (m < s.size ∧ (bt s m != 59) = false) ∨ (m < s.size ∧ (bt s m != 59) = true ∧ (bt s m != 44) = false) ∨ ¬ m < s.size := by
              simp; omega
            clear hend
            rcases hrep with ⟨rfl, rfl, hgg⟩ | ⟨rfl, rfl, hgg⟩
            · obtain rfl : gf = true := hgg
              rcases hend2 with ⟨hm, hm1⟩ | ⟨hm, hm1, hm2⟩ | hm
              all_goals
              go_wp2_with (first
                | (go_at_call 14; refine (isTokenChar_eq _).mono ?_; rintro e w' ⟨rfl, rfl⟩)
                | (go_at_call 15; refine (parseValue_at _ _ _ _ _ _ hs hval HE).mono ?_; rintro e w2 ⟨rfl, hb2⟩; have hb4 := kept_two hb2 HB4.out; have hb8 := kept_two hb2 HB8.out; have c40 := two_cell0 hb4; have c41 := two_cell1 hb4; have f40 := Lib.frozen_of_heap hb4 0; have f41 := Lib.frozen_of_heap hb4 1; have c80 := two_cell0 hb8; have c81 := two_cell1 hb8; have f80 := Lib.frozen_of_heap hb8 0; have f81 := Lib.frozen_of_heap hb8 1; have HB42 : Hid (w2.heap[w.heap.size]? = some (.cells #[.string ⟨#[]⟩, .string ⟨#[]⟩] 33 (0, 0))) := hb4; have HB82 : Hid (w2.heap[w.heap.size + 1]? = some (.cells #[.string node, .string proto] 33 (0, 0))) := hb8; clear hb4 hb8)
                | (go_at_call 13; refine (skip_calls hsk2 _ hs).mono ?_; rintro e w' ⟨rfl, rfl⟩)
                | (go_at_call_of 16 (Value.string ⟨#[102, 111, 114]⟩); refine (fold_for _ _ hs HL HF).mono ?_; rintro e w' ⟨rfl, rfl⟩)
                | (go_at_call 16; refine (fold_proto _ _ hs HL HP).mono ?_; rintro e w' ⟨rfl, rfl⟩))
              refine bodyPost_ret (v := .tuple #[.agg #[.string ⟨#[]⟩, .string ⟨#[]⟩], .int .i64 m, .int .i64 sp, .bool false]) ?_ rfl ⟨_, _, m, sp, false, rfl, HI.out, ?_⟩
              · simp [results, Tryd.results12, go_sem, (two_store HB42.out).1, (two_store HB42.out).2]
              · exact ((hbel.trans (hb2.mono hbel.size)).setCell (Nat.le_refl _) _).setCell (Nat.le_refl _) _
            · obtain rfl : gp = true := hgg
              rcases hend2 with ⟨hm, hm1⟩ | ⟨hm, hm1, hm2⟩ | hm
              all_goals
              go_wp2_with (first
                | (go_at_call 14; refine (isTokenChar_eq _).mono ?_; rintro e w' ⟨rfl, rfl⟩)
                | (go_at_call 15; refine (parseValue_at _ _ _ _ _ _ hs hval HE).mono ?_; rintro e w2 ⟨rfl, hb2⟩; have hb4 := kept_two hb2 HB4.out; have hb8 := kept_two hb2 HB8.out; have c40 := two_cell0 hb4; have c41 := two_cell1 hb4; have f40 := Lib.frozen_of_heap hb4 0; have f41 := Lib.frozen_of_heap hb4 1; have c80 := two_cell0 hb8; have c81 := two_cell1 hb8; have f80 := Lib.frozen_of_heap hb8 0; have f81 := Lib.frozen_of_heap hb8 1; have HB42 : Hid (w2.heap[w.heap.size]? = some (.cells #[.string ⟨#[]⟩, .string ⟨#[]⟩] 33 (0, 0))) := hb4; have HB82 : Hid (w2.heap[w.heap.size + 1]? = some (.cells #[.string node, .string proto] 33 (0, 0))) := hb8; clear hb4 hb8)
                | (go_at_call 13; refine (skip_calls hsk2 _ hs).mono ?_; rintro e w' ⟨rfl, rfl⟩)
                | (go_at_call_of 16 (Value.string ⟨#[102, 111, 114]⟩); refine (fold_for _ _ hs HL HF).mono ?_; rintro e w' ⟨rfl, rfl⟩)
                | (go_at_call 16; refine (fold_proto _ _ hs HL HP).mono ?_; rintro e w' ⟨rfl, rfl⟩))
              refine bodyPost_ret (v := .tuple #[.agg #[.string ⟨#[]⟩, .string ⟨#[]⟩], .int .i64 m, .int .i64 sp, .bool false]) ?_ rfl ⟨_, _, m, sp, false, rfl, HI.out, ?_⟩
              · simp [results, Tryd.results12, go_sem, (two_store HB42.out).1, (two_store HB42.out).2]
              · exact ((hbel.trans (hb2.mono hbel.size)).setCell (Nat.le_refl _) _).setCell (Nat.le_refl _) _
end Go.Proofs.Qxb6601195aDoor

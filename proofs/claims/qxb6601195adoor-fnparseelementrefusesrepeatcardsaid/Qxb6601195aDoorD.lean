/- Walks of seat b6601195aD: isTokenChar, parseValue at a quoted text. -/
import Derived.Test.Qxb6601195aDoorC
namespace Go.Proofs.Qxb6601195aDoor
open Go.RowKit Go.PlainAid

/-- The bytes l stand in s from i on. -/
def At (s : ByteArray) (i : Nat) (l : List UInt8) : Prop := i + l.length ≤ s.size ∧ ∀ (k : Nat) (c : UInt8), l[k]? = some c → bt s (i + k) = (c.toNat : Int)

theorem At.left {s : ByteArray} {i : Nat} {a b : List UInt8} (h : At s i (a ++ b)) : At s i a := by
  refine ⟨by have := h.1; simp at this; omega, fun k c hk => h.2 k c ?_⟩
  have : k < a.length := by
    rcases Nat.lt_or_ge k a.length with h1 | h1
    · exact h1
    · simp [List.getElem?_eq_none h1] at hk
  rw [List.getElem?_append_left this]; exact hk
theorem At.right {s : ByteArray} {i : Nat} {a b : List UInt8} (h : At s i (a ++ b)) : At s (i + a.length) b := by
  refine ⟨by have := h.1; simp at this; omega, fun k c hk => ?_⟩
  have := h.2 (a.length + k) c (by rw [List.getElem?_append_right (by omega)]; simpa using hk)
  rw [Nat.add_assoc]; exact this
theorem At.head {s : ByteArray} {i : Nat} {c : UInt8} {l : List UInt8} (h : At s i (c :: l)) : i < s.size ∧ bt s i = (c.toNat : Int) :=
  ⟨by have := h.1; simp at this; omega, h.2 0 c rfl⟩
theorem At.tail {s : ByteArray} {i : Nat} {c : UInt8} {l : List UInt8} (h : At s i (c :: l)) : At s (i + 1) l := At.right (a := [c]) h

theorem bt_list (l : List UInt8) (k : Nat) (c : UInt8) (h : l[k]? = some c) : bt ⟨l.toArray⟩ k = (c.toNat : Int) := by
  obtain ⟨hk, rfl⟩ := List.getElem?_eq_some_iff.1 h
  unfold bt
  rw [dif_pos (show k < (⟨l.toArray⟩ : ByteArray).size by simpa [ByteArray.size] using hk)]
  rfl
theorem At.whole (l : List UInt8) : At ⟨l.toArray⟩ 0 l := ⟨by simp [ByteArray.size], fun k c h => by rw [Nat.zero_add]; exact bt_list l k c h⟩

set_option maxHeartbeats 400000 in
theorem isTokenChar_yes (c : Int) (w : World) (h0 : (97 ≤ c ∧ c ≤ 122) ∨ (65 ≤ c ∧ c ≤ 90)) :
    Calls Tryd.prog 14 #[.int .u8 c] w fun e w' => e = .returned (.bool true) ∧ w' = w := by
  rcases h0 with ⟨h1, h2⟩ | ⟨h1, h2⟩
  · go_enter Tryd.func14, Tryd.ntmps14
    go_wp2
    go_ret
    exact ⟨rfl, rfl⟩
  · go_enter Tryd.func14, Tryd.ntmps14
    go_wp2
    go_ret
    exact ⟨rfl, rfl⟩

set_option maxHeartbeats 400000 in
theorem isTokenChar_eq (w : World) :
    Calls Tryd.prog 14 #[.int .u8 61] w fun e w' => e = .returned (.bool false) ∧ w' = w := by
  go_enter Tryd.func14, Tryd.ntmps14
  go_wp2_with (go_at_call 17; refine (Tryd.strings_IndexByte _ _ _).mono ?_; rintro e w' ⟨rfl, rfl⟩; rw [show Lib.indexByte ({ data := #[33, 35, 36, 37, 38, 39, 42, 43, 45, 46, 94, 95, 96, 124, 126] } : ByteArray).data.toList (61 : Int).toNat.toUInt8 = -1 from by decide])
  go_ret
  exact ⟨rfl, rfl⟩

theorem escs_nil (all : Bool) : escs all [] = [] := rfl
theorem escs_ge (all : Bool) (l : List UInt8) : l.length ≤ (escs all l).length := by
  induction l with
  | nil => simp
  | cons c l ih =>
    rw [escs_cons, List.length_append, List.length_cons]
    split <;> simp only [List.length_cons, List.length_nil] <;> omega

set_option maxHeartbeats 400000 in
theorem parseValue_any (s : ByteArray) (i : Nat) (l : List UInt8) (all : Bool) (w : World) (hs : s.size ≤ 16777216) (hat : At s i (34 :: (escs all l ++ [34]))) :
    Calls Tryd.prog 15 #[.string s, .int .i64 i] w fun e w' =>
      e = .returned (.tuple #[.string ⟨l.toArray⟩, .int .i64 (i + (escs all l).length + 2 : Nat), .bool true]) ∧ Below w.heap.size w w' := by
  have hh := hat.head
  have ht := hat.tail
  have hsz := hat.1
  simp at hsz
  obtain ⟨hh1, hh2⟩ := hh
  have hh2' : (bt s i == 34) = true := by rw [hh2]; rfl
  have HT : Hid (At s (i + 1) (escs all l ++ [34])) := ht
  clear ht hat hh2
  have hg := get_bt s
  go_enter Tryd.func15, Tryd.ntmps15
  go_wp2
  have hfresh := Lib.fresh_isBuilder 43 5 w
  have hbw : Below w.heap.size w (w.alloc (.cells #[.pointer none, .slice none 0 0] 43)) := (Below.refl _ _).alloc (Nat.le_refl _) _
  go_loopw [1] (fun x wr => ∃ (p : Nat) (l1 l2 : List UInt8), x = .int .i64 p ∧ l = l1 ++ l2 ∧ At s p (escs all l2 ++ [34]) ∧ p + (escs all l2).length = i + 1 + (escs all l).length ∧ Lib.IsBuilder 43 5 w.heap.size w.heap.size (Lib.byteCells l1) wr ∧ Below w.heap.size w wr)
    (fun x _ => s.size - (intOf x).toNat)
  case atStart => exact ⟨i + 1, [], l, by go_num, rfl, HT.out, rfl, hfresh, hbw⟩
  case round =>
    clear hfresh hbw HT
    obtain ⟨p, l1, l2, rfl, hl, hat, hp, hbd, hbel⟩ := hrel
    have hbs := hbel.size
    have hl1 : l1.length ≤ 16777216 := by
      have h1 := escs_ge all l
      have h2 : l.length = l1.length + l2.length := by rw [hl]; simp
      omega
    have HP : Hid (p + (escs all l2).length = i + 1 + (escs all l).length) := hp
    have HL : Hid (l = l1 ++ l2) := hl
    clear hp hl
    cases l2 with
    | nil =>
      have h1 := hat.head
      obtain ⟨hp1, hp2⟩ := h1
      have hp3 : (bt s p == 34) = true := by rw [hp2]; rfl
      clear hp2 hat
      go_wp2_with (go_at_call 18; refine (Tryd.Builder_String_any _ _ _ _ hbd hbs).mono ?_; rintro e w' ⟨rfl, hb2⟩)
      go_ret3
      exact ⟨by have e1 := HL.out; rw [List.append_nil] at e1; rw [← e1]; have := HP.out; simp [escs_nil] at this ⊢; omega, hbel.trans hb2⟩
    | cons c l2 =>
      by_cases hq : (all || c == 34 || c == 92) = true
      · have hat2 : At s p (92 :: c :: (escs all l2 ++ [34])) := by
          rw [escs_cons, if_pos hq] at hat; exact hat
        obtain ⟨hp1, hp2⟩ := hat2.head
        obtain ⟨hp3, hp4⟩ := hat2.tail.head
        have hp5 : (bt s p == 34) = false := by rw [hp2]; rfl
        have hp6 : (bt s p == 92) = true := by rw [hp2]; rfl
        have HAT : Hid (At s (p + 1 + 1) (escs all l2 ++ [34])) := hat2.tail.tail
        have HP2 : Hid (bt s (p + 1) = c.toNat) := hp4
        clear hp2 hp4 hat hat2
        go_wp2_with (go_at_call 19; refine (Tryd.Builder_WriteByte _ _ _ _ _ hbd (by simp [Lib.byteCells]; omega) hbs).mono ?_; rintro e w' ⟨rfl, hbd2, hb2⟩)
        go_roundw
        case rel => exact ⟨p + 1 + 1, l1 ++ [c], l2, by go_num, by rw [HL.out]; simp, HAT.out, by have := HP.out; rw [escs_cons, if_pos hq] at this; simp at this; omega, by rw [HP2.out] at hbd2; exact Or.inr (by simpa [Lib.byteCells] using hbd2), hbel.trans hb2⟩
        case measure => simp [intOf]; omega
      · have hat2 : At s p (c :: (escs all l2 ++ [34])) := by
          rw [escs_cons, if_neg hq] at hat; exact hat
        obtain ⟨hp1, hp2⟩ := hat2.head
        have hq' : ((c.toNat : Int) == 34) = false ∧ ((c.toNat : Int) == 92) = false := by
          rw [is34, is92]
          cases all <;> cases h1 : (c == 34) <;> cases h2 : (c == 92) <;> simp_all
        have hp5 : (bt s p == 34) = false := by rw [hp2]; exact hq'.1
        have hp6 : (bt s p == 92) = false := by rw [hp2]; exact hq'.2
        have HAT : Hid (At s (p + 1) (escs all l2 ++ [34])) := hat2.tail
        have HP2 : Hid (bt s p = c.toNat) := hp2
        clear hp2 hat hat2 hq'
        go_wp2_with (go_at_call 19; refine (Tryd.Builder_WriteByte _ _ _ _ _ hbd (by simp [Lib.byteCells]; omega) hbs).mono ?_; rintro e w' ⟨rfl, hbd2, hb2⟩)
        go_roundw
        case rel => exact ⟨p + 1, l1 ++ [c], l2, by go_num, by rw [HL.out]; simp, HAT.out, by have := HP.out; rw [escs_cons, if_neg hq] at this; simp at this; omega, by rw [HP2.out] at hbd2; exact Or.inr (by simpa [Lib.byteCells] using hbd2), hbel.trans hb2⟩
        case measure => simp [intOf]; omega
end Go.Proofs.Qxb6601195aDoor

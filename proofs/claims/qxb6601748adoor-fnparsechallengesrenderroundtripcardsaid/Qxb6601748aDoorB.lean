/- Seat b6601748aD: the header parser's methods. -/
import Derived.Test.Qxb6601748aDoorA
namespace Go.Proofs.Qxb6601748aDoor
open Go.RowKit Go.PlainAid

theorem two_cell0 {w : World} {b : Nat} {x y : Value} {t : TypeId} (h : w.heap[b]? = some (.cells #[x, y] t (0, 0))) : w.cell? ⟨b, 0, none⟩ = some x := by
  rw [Lib.cell_of_heap h]; rfl
theorem two_cell1 {w : World} {b : Nat} {x y : Value} {t : TypeId} (h : w.heap[b]? = some (.cells #[x, y] t (0, 0))) : w.cell? ⟨b, 1, none⟩ = some y := by
  rw [Lib.cell_of_heap h]; rfl
theorem two_set1 {w : World} {b : Nat} {x y : Value} {t : TypeId} (h : w.heap[b]? = some (.cells #[x, y] t (0, 0))) (u : Value) : (w.setCell ⟨b, 1, none⟩ u).heap[b]? = some (.cells #[x, u] t (0, 0)) := by
  rw [heap_setCell_same w b 1 _ t u h]; rfl

/-- Nothing but block pb is changed, of what was there. -/
def Only (pb : Nat) (w w' : World) : Prop := Below pb w w' ∧ ∀ k, pb < k → k < w.heap.size → w'.heap[k]? = w.heap[k]?
theorem Only.refl (pb : Nat) (w : World) : Only pb w w := ⟨Below.refl _ _, fun _ _ _ => rfl⟩
theorem Only.trans {pb : Nat} {a b c : World} (h : Only pb a b) (k : Only pb b c) : Only pb a c :=
  ⟨h.1.trans k.1, fun i h1 h2 => (k.2 i h1 (Nat.lt_of_lt_of_le h2 h.1.size)).trans (h.2 i h1 h2)⟩
theorem Only.of_below {pb : Nat} {w w' : World} (h : Below w.heap.size w w') (hp : pb ≤ w.heap.size) : Only pb w w' :=
  ⟨h.mono hp, fun k _ h2 => h.block k h2⟩
theorem Only.setCell {pb : Nat} {a w : World} (h : Only pb a w) (o : Nat) (u : Value) : Only pb a (w.setCell ⟨pb, o, none⟩ u) :=
  ⟨h.1.setCell (Nat.le_refl _) u, fun k h1 h2 => (Below.heap_setCell w ⟨pb, o, none⟩ u k (by simp; omega)).trans (h.2 k h1 h2)⟩
theorem Only.drewN {pb : Nat} {a w : World} (h : Only pb a w) (q : Nat) : Only pb a (w.drewN q) := ⟨below_drewN h.1 q, h.2⟩

/-- The parser at block pb: its text, where it stands. -/
def PS (w : World) (pb : Nat) (s : ByteArray) (i : Nat) : Prop := w.heap[pb]? = some (.cells #[.string s, .int .i64 i] 51 (0, 0))
theorem PS.lt {w : World} {pb : Nat} {s : ByteArray} {i : Nat} (h : PS w pb s i) : pb < w.heap.size := by
  rcases Nat.lt_or_ge pb w.heap.size with h' | h'
  · exact h'
  · simp [PS, Array.getElem?_eq_none h'] at h
theorem PS.below {w w' : World} {pb : Nat} {s : ByteArray} {i : Nat} (h : PS w pb s i) (hb : Below w.heap.size w w') : PS w' pb s i := (hb.block pb h.lt).trans h
theorem PS.drewN {w : World} {pb : Nat} {s : ByteArray} {i : Nat} (h : PS w pb s i) (q : Nat) : PS (w.drewN q) pb s i := h
theorem PS.set {w : World} {pb : Nat} {s : ByteArray} {i : Nat} (h : PS w pb s i) (j : Nat) : PS (w.setCell ⟨pb, 1, none⟩ (.int .i64 j)) pb s j := two_set1 h _

theorem PS.step {w : World} {pb : Nat} {s : ByteArray} {i : Nat} (h : PS w pb s i) (k : Nat) : PS (w.setCell ⟨pb, 1, none⟩ (.int .i64 ((k : Int) + 1))) pb s (k + 1) := two_set1 h _
/-- Where the parser stands. -/
def posOf (w : World) (pb : Nat) : Nat := (intOf ((w.cell? ⟨pb, 1, none⟩).getD undef)).toNat
theorem PS.pos {w : World} {pb : Nat} {s : ByteArray} {i : Nat} (h : PS w pb s i) : posOf w pb = i := by
  unfold posOf; rw [two_cell1 h]; simp [intOf]

/-- Is the byte one of the set's? -/
def inset (set : ByteArray) (x : Int) : Bool := decide (0 ≤ Lib.indexByte set.data.toList x.toNat.toUInt8)

set_option maxHeartbeats 800000 in
theorem skip_any (pb : Nat) (s set : ByteArray) (i j : Nat) (w : World) (hP : PS w pb s i) (hs : s.size ≤ 16777216) (hij : i ≤ j) (hj : j ≤ s.size)
    (h1 : ∀ k, i ≤ k → k < j → inset set (bt s k) = true) (h2 : j < s.size → inset set (bt s j) = false) :
    Calls Tryd.prog 22 #[.pointer (some ⟨pb, 0, none⟩), .string set] w fun e w' => e = .returned (.tuple #[]) ∧ PS w' pb s j ∧ Only pb w w' := by
  have HP : Hid (PS w pb s i) := hP
  have H1 : Hid (∀ k, i ≤ k → k < j → inset set (bt s k) = true) := h1
  have H2 : Hid (j < s.size → inset set (bt s j) = false) := h2
  have hg := get_bt s
  clear hP h1 h2
  go_enter Tryd.func22, Tryd.ntmps22
  go_wp2
  go_loopw [] (fun wr => ∃ k : Nat, i ≤ k ∧ k ≤ j ∧ Hid (PS wr pb s k) ∧ Only pb w wr) (fun wr => s.size - posOf wr pb)
  case atStart => exact ⟨i, Nat.le_refl _, hij, HP, Only.refl _ _⟩
  case round =>
    obtain ⟨k, hk0, hk, hps, ho⟩ := hrel
    have c0 := two_cell0 hps.out
    have c1 := two_cell1 hps.out
    have f1 := Lib.frozen_of_heap hps.out 1
    by_cases hlt : k < j
    · have hin := H1.out k hk0 hlt
      unfold inset at hin
      have g1 : decide ((k : Int) < (s.size : Int)) = true := by simp; omega
      have hki : (k : Int) < (s.size : Int) := by omega
      have hks : k < s.size := by omega
      go_wp2
      go_quiet ((go_at_call 32; refine Calls.quiet_of_same (Tryd.strings_IndexByte _ _ _)))
      go_wp2
      go_roundw
      case rel => exact ⟨k + 1, by omega, by omega, PS.step (hps.out.drewN _) k, (ho.drewN _).setCell 1 _⟩
      case measure =>
        rw [PS.pos (PS.step (hps.out.drewN _) k), PS.pos hps.out]
        omega
    · obtain rfl : k = j := by omega
      by_cases hjs : k < s.size
      · have hin := H2.out hjs
        unfold inset at hin
        have g1 : decide ((k : Int) < (s.size : Int)) = true := by simp; omega
        have hki : (k : Int) < (s.size : Int) := by omega
        go_wp2
        go_quiet ((go_at_call 32; refine Calls.quiet_of_same (Tryd.strings_IndexByte _ _ _)))
        go_wp2
        go_end0
        exact ⟨rfl, hps.out.drewN _, ho.drewN _⟩
      · have g1 : decide ((k : Int) < (s.size : Int)) = false := by simp; omega
        go_wp2
        go_quiet (fail)
        go_wp2
        go_end0
        exact ⟨rfl, hps.out.drewN _, ho.drewN _⟩

set_option maxHeartbeats 800000 in
theorem token_any (pb : Nat) (s : ByteArray) (i j : Nat) (w : World) (hP : PS w pb s i) (hs : s.size ≤ 16777216) (hij : i ≤ j) (hj : j ≤ s.size)
    (h1 : ∀ k, i ≤ k → k < j → tc (bt s k) = true) (h2 : j < s.size → tc (bt s j) = false) :
    Calls Tryd.prog 20 #[.pointer (some ⟨pb, 0, none⟩)] w fun e w' => e = .returned (.string (s.extract i j)) ∧ PS w' pb s j ∧ Only pb w w' := by
  have HP : Hid (PS w pb s i) := hP
  have H1 : Hid (∀ k, i ≤ k → k < j → tc (bt s k) = true) := h1
  have H2 : Hid (j < s.size → tc (bt s j) = false) := h2
  have hg := get_bt s
  have c0 := two_cell0 hP
  have c1 := two_cell1 hP
  clear hP h1 h2
  go_enter Tryd.func20, Tryd.ntmps20
  go_wp2
  clear c0 c1
  go_loopw [] (fun wr => ∃ k : Nat, i ≤ k ∧ k ≤ j ∧ Hid (PS wr pb s k) ∧ Only pb w wr) (fun wr => s.size - posOf wr pb)
  case atStart => exact ⟨i, Nat.le_refl _, hij, HP, Only.refl _ _⟩
  case round =>
    obtain ⟨k, hk0, hk, hps, ho⟩ := hrel
    have c0 := two_cell0 hps.out
    have c1 := two_cell1 hps.out
    have f1 := Lib.frozen_of_heap hps.out 1
    have hbb := bt_bounds s k
    by_cases hlt : k < j
    · have hin := H1.out k hk0 hlt
      have g1 : decide ((k : Int) < (s.size : Int)) = true := by simp; omega
      have hki : (k : Int) < (s.size : Int) := by omega
      have hks : k < s.size := by omega
      go_wp2
      go_quiet ((go_at_call 19; refine Calls.quiet_of_same (isTokenChar_any _ hbb.1 hbb.2 _)))
      go_wp2
      go_roundw
      case rel => exact ⟨k + 1, by omega, by omega, PS.step (hps.out.drewN _) k, (ho.drewN _).setCell 1 _⟩
      case measure =>
        rw [PS.pos (PS.step (hps.out.drewN _) k), PS.pos hps.out]
        omega
    · obtain rfl : k = j := by omega
      have hij2 : (i : Int) ≤ (k : Int) := by omega
      have hks2 : (k : Int) ≤ (s.size : Int) := by omega
      by_cases hjs : k < s.size
      · have hin := H2.out hjs
        have g1 : decide ((k : Int) < (s.size : Int)) = true := by simp; omega
        have hki : (k : Int) < (s.size : Int) := by omega
        go_wp2
        go_quiet ((go_at_call 19; refine Calls.quiet_of_same (isTokenChar_any _ hbb.1 hbb.2 _)))
        go_wp2
        go_quiet (fail)
        go_wp2
        go_ret
        exact ⟨rfl, hps.out, (ho.drewN _).drewN _⟩
      · have g1 : decide ((k : Int) < (s.size : Int)) = false := by simp; omega
        go_wp2
        go_quiet (fail)
        go_wp2
        go_quiet (fail)
        go_wp2
        go_ret
        exact ⟨rfl, hps.out, (ho.drewN _).drewN _⟩

set_option maxHeartbeats 400000 in
theorem next_yes (pb : Nat) (s : ByteArray) (i : Nat) (c : Int) (w : World) (hP : PS w pb s i) (hs : s.size ≤ 16777216) (hi : i < s.size) (hc : bt s i = c) :
    Calls Tryd.prog 23 #[.pointer (some ⟨pb, 0, none⟩), .int .u8 c] w fun e w' => e = .returned (.bool true) ∧ PS w' pb s (i + 1) ∧ Only pb w w' := by
  have HP : Hid (PS w pb s i) := hP
  have hg := get_bt s
  have c0 := two_cell0 hP
  have c1 := two_cell1 hP
  have f1 := Lib.frozen_of_heap hP 1
  have g1 : decide ((i : Int) < (s.size : Int)) = true := by simp; omega
  have hki : (i : Int) < (s.size : Int) := by omega
  have hc2 : (bt s i == c) = true := by simp [hc]
  clear hP hc
  go_enter Tryd.func23, Tryd.ntmps23
  go_wp2
  go_quiet (fail)
  go_wp2
  go_ret
  exact ⟨rfl, PS.step (HP.out.drewN _) i, ((Only.refl _ _).drewN _).setCell 1 _⟩

set_option maxHeartbeats 400000 in
theorem next_no (pb : Nat) (s : ByteArray) (i : Nat) (c : Int) (w : World) (hP : PS w pb s i) (hc : i < s.size → bt s i ≠ c) :
    Calls Tryd.prog 23 #[.pointer (some ⟨pb, 0, none⟩), .int .u8 c] w fun e w' => e = .returned (.bool false) ∧ PS w' pb s i ∧ Only pb w w' := by
  have HP : Hid (PS w pb s i) := hP
  have hg := get_bt s
  have c0 := two_cell0 hP
  have c1 := two_cell1 hP
  clear hP
  by_cases hi : i < s.size
  · have hc2 : (bt s i == c) = false := by simp [hc hi]
    have g1 : decide ((i : Int) < (s.size : Int)) = true := by simp; omega
    have hki : (i : Int) < (s.size : Int) := by omega
    clear hc
    go_enter Tryd.func23, Tryd.ntmps23
    go_wp2
    go_quiet (fail)
    go_wp2
    go_ret
    exact ⟨rfl, HP.out.drewN _, (Only.refl _ _).drewN _⟩
  · have g1 : decide ((i : Int) < (s.size : Int)) = false := by simp; omega
    clear hc
    go_enter Tryd.func23, Tryd.ntmps23
    go_wp2
    go_quiet (fail)
    go_wp2
    go_ret
    exact ⟨rfl, HP.out.drewN _, (Only.refl _ _).drewN _⟩
end Go.Proofs.Qxb6601748aDoor

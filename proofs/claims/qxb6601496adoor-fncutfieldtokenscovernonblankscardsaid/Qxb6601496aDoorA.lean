/- Seat b6601496aD: the small functions: zzBytes, zzb1Clone, zzb1Blank, zzb1Same; the plain scans. -/
import Derived.Test.Qxb6601496aDoorProg
import Derived.WalkKit
import Derived.WalkSpells
import Derived.WalkLawsBesides
import Derived.PlainAid
import Derived.Handy
import Derived.Deep.QuietTactic
import Derived.BigQuiet
import Derived.Laws.OwnMore
import Derived.Lib.SliceRun
namespace Go.Proofs.Qxb6601496aDoor
open Go.RowKit Go.PlainAid

theorem Tryd.info5 : (Tryd.prog.info? 5).map (fun i => (i.zero, i.size, i.bytes)) = some (some (.int .u8 0), 1, 1) := by kernel_rfl

/-- A blank: a space or a tab. -/
def blank (x : Int) : Bool := x == 32 || x == 9

/-- The first k of i, i + 1, .. , i + f - 1 with p k, else i + f. -/
def ff (p : Nat → Bool) : Nat → Nat → Nat
  | 0, i => i
  | f + 1, i => if p i then i else ff p f (i + 1)
/-- The first k from i on below n with p k, else n. -/
def scan (p : Nat → Bool) (n i : Nat) : Nat := ff p (n - i) i

theorem ff_spec (p : Nat → Bool) : ∀ f i, i ≤ ff p f i ∧ ff p f i ≤ i + f ∧ (∀ k, i ≤ k → k < ff p f i → p k = false) ∧ (ff p f i < i + f → p (ff p f i) = true)
  | 0, i => by
    show i ≤ i ∧ i ≤ i + 0 ∧ (∀ k, i ≤ k → k < i → p k = false) ∧ (i < i + 0 → p i = true)
    exact ⟨Nat.le_refl _, Nat.le_refl _, fun k h1 h2 => absurd h2 (by omega), fun h => absurd h (by omega)⟩
  | f + 1, i => by
    unfold ff
    by_cases h : p i = true
    · rw [if_pos h]
      exact ⟨Nat.le_refl _, by omega, fun k h1 h2 => absurd h2 (by omega), fun _ => h⟩
    · rw [if_neg h]
      obtain ⟨h1, h2, h3, h4⟩ := ff_spec p f (i + 1)
      refine ⟨by omega, by omega, fun k hk1 hk2 => ?_, fun hl => h4 (by omega)⟩
      by_cases hk : k = i
      · subst hk; simpa using h
      · exact h3 k (by omega) hk2
theorem scan_spec {p : Nat → Bool} {n i : Nat} (h : i ≤ n) : i ≤ scan p n i ∧ scan p n i ≤ n ∧ (∀ k, i ≤ k → k < scan p n i → p k = false) ∧ (scan p n i < n → p (scan p n i) = true) := by
  obtain ⟨h1, h2, h3, h4⟩ := ff_spec p (n - i) i
  exact ⟨h1, by unfold scan; omega, h3, fun hl => h4 (by unfold scan at hl; omega)⟩
theorem scan_uniq {p : Nat → Bool} {n i k : Nat} (h1 : i ≤ k) (h2 : k ≤ n) (h3 : ∀ j, i ≤ j → j < k → p j = false) (h4 : k < n → p k = true) : scan p n i = k := by
  obtain ⟨g1, g2, g3, g4⟩ := scan_spec (p := p) (n := n) (i := i) (by omega)
  rcases Nat.lt_trichotomy (scan p n i) k with h | h | h
  · have e1 := h3 _ g1 h
    rw [g4 (by omega)] at e1; cases e1
  · exact h
  · have e1 := g3 _ h1 h
    rw [h4 (by omega)] at e1; cases e1

/-- The address p, where there is a byte, leads to n cells that hold the bytes X 0, X 1, .. -/
def In (w : World) (p : Option Addr) (n : Nat) (X : Nat → Int) : Prop :=
  0 < n → ∃ b o, p = some ⟨b, o, none⟩ ∧ b < w.heap.size ∧ ∀ i, i < n → w.cell? ⟨b, o + i, none⟩ = some (.int .u8 (X i))
theorem In.below {w w' : World} {p : Option Addr} {n : Nat} {X : Nat → Int} (h : In w p n X) {B : Nat} (hb : Below B w w') (hB : w.heap.size ≤ B) : In w' p n X := fun hn => by
  obtain ⟨b, o, h1, h2, h3⟩ := h hn
  exact ⟨b, o, h1, Nat.lt_of_lt_of_le h2 hb.size, fun i hi => (hb.cell (p := ⟨b, o + i, none⟩) (Nat.lt_of_lt_of_le h2 hB)).trans (h3 i hi)⟩

theorem zzBytes6_any (p : Option Addr) (n c : Nat) (w : World) (hn : n ≤ 140737488355328) :
    Calls Tryd.prog 6 #[.slice p n c] w fun e w' => (e = .returned (.bool false) ∨ (e = .returned (.bool true) ∧ n ≤ 1048576)) ∧ w' = w := by
  go_enter Tryd.func6, Tryd.ntmps6
  by_cases hbig : n ≤ 1048576
  · go_wp2
    go_ret
    exact ⟨Or.inr ⟨rfl, hbig⟩, rfl⟩
  · go_wp2
    go_ret
    exact ⟨Or.inl rfl, rfl⟩
theorem zzBytes12_any (p : Option Addr) (n c : Nat) (w : World) (hn : n ≤ 140737488355328) :
    Calls Tryd.prog 12 #[.slice p n c] w fun e w' => (e = .returned (.bool false) ∨ (e = .returned (.bool true) ∧ n ≤ 1048576)) ∧ w' = w := by
  go_enter Tryd.func12, Tryd.ntmps12
  by_cases hbig : n ≤ 1048576
  · go_wp2
    go_ret
    exact ⟨Or.inr ⟨rfl, hbig⟩, rfl⟩
  · go_wp2
    go_ret
    exact ⟨Or.inl rfl, rfl⟩

theorem blank_any (x : Int) (w : World) :
    Calls Tryd.prog 9 #[.int .u8 x] w fun e w' => e = .returned (.bool (blank x)) ∧ w' = w := by
  by_cases h1 : (x == 32) = true
  · have hb : blank x = true := by simp [blank, h1]
    rw [hb]
    clear hb
    go_enter Tryd.func9, Tryd.ntmps9
    go_wp2
    go_ret
    exact ⟨rfl, rfl⟩
  · have h1' : (x == 32) = false := by simpa using h1
    clear h1
    by_cases h2 : (x == 9) = true
    · have hb : blank x = true := by simp [blank, h2]
      rw [hb]
      clear hb
      go_enter Tryd.func9, Tryd.ntmps9
      go_wp2
      go_ret
      exact ⟨rfl, rfl⟩
    · have h2' : (x == 9) = false := by simpa using h2
      have hb : blank x = false := by simp [blank, h1', h2']
      rw [hb]
      clear hb h2
      go_enter Tryd.func9, Tryd.ntmps9
      go_wp2
      go_ret
      exact ⟨rfl, rfl⟩

set_option maxHeartbeats 400000 in
theorem same_any (p1 p2 : Option Addr) (n c1 c2 : Nat) (X : Nat → Int) (w : World) (h1 : In w p1 n X) (h2 : In w p2 n X) (hn : n ≤ 140737488355328) :
    Calls Tryd.prog 10 #[.slice p1 n c1, .slice p2 n c2] w fun e w' => e = .returned (.bool true) ∧ Below w.heap.size w w' := by
  have H1 : Hid (In w p1 n X) := h1
  have H2 : Hid (In w p2 n X) := h2
  clear h1 h2
  go_enter Tryd.func10, Tryd.ntmps10
  go_wp2
  go_loopw [5] (fun i wr => ∃ (k : Nat), k ≤ n ∧ i = .int .i64 k ∧ Below w.heap.size w wr) (fun i _ => n - (intOf i).toNat)
  case atStart => exact ⟨0, Nat.zero_le _, rfl, Below.refl _ _⟩
  case round =>
    obtain ⟨k, hk, rfl, hbel⟩ := hrel
    by_cases hlt : k < n
    · obtain ⟨b1, o1, hp1, hl1, hc10⟩ := H1.out (by omega)
      obtain ⟨b2, o2, hp2, hl2, hc20⟩ := H2.out (by omega)
      have hc1 : wr.cell? ⟨b1, o1 + k, none⟩ = some (.int .u8 (X k)) := (hbel.cell (p := ⟨b1, o1 + k, none⟩) hl1).trans (hc10 k hlt)
      have hc2 : wr.cell? ⟨b2, o2 + k, none⟩ = some (.int .u8 (X k)) := (hbel.cell (p := ⟨b2, o2 + k, none⟩) hl2).trans (hc20 k hlt)
      clear hc10 hc20 H1 H2
      subst hp1
      subst hp2
      have heq : (X k == X k) = true := by simp
      go_wp2
      go_quiet (fail)
      go_wp2
      go_roundw
      case rel => exact ⟨k + 1, by omega, by go_num, below_drewN hbel nq⟩
      case measure => simp [intOf]; omega
    · go_wp2
      go_ret
      exact ⟨rfl, hbel⟩

def filled (f : Nat → Value) (z : Value) (k n : Nat) : List Value := (List.range n).map fun i => if i < k then f i else z
theorem filled_zero (f : Nat → Value) (z : Value) (n : Nat) : filled f z 0 n = List.replicate n z := by
  simp [filled, List.map_const']
theorem filled_set (f : Nat → Value) (z : Value) (k n : Nat) (h : k < n) : (filled f z k n).set k (f k) = filled f z (k + 1) n := by
  apply List.ext_getElem?
  intro j
  rw [List.getElem?_set]
  by_cases hj : k = j
  · subst hj
    simp [filled, h]
  · rw [if_neg hj]
    simp only [filled, List.getElem?_map]
    by_cases hjn : j < n
    · rw [List.getElem?_range hjn]
      simp only [Option.map_some, Option.some.injEq]
      by_cases h1 : j < k
      · rw [if_pos h1, if_pos (by omega)]
      · rw [if_neg h1, if_neg (by omega)]
    · rw [List.getElem?_eq_none (by simp; omega)]; rfl
theorem filled_get (f : Nat → Value) (z : Value) (n i : Nat) (h : i < n) : (filled f z n n)[i]? = some (f i) := by
  simp [filled, h]
theorem filled_some (f : Nat → Value) (z : Value) (k n i : Nat) (h : i < n) : ∃ u, (filled f z k n)[i]? = some u := by
  refine ⟨if i < k then f i else z, ?_⟩
  simp [filled, h]
theorem lt_of_heap {w : World} {g : Nat} {o : Obj} (h : w.heap[g]? = some o) : g < w.heap.size := by
  rcases Nat.lt_or_ge g w.heap.size with h' | h'
  · exact h'
  · simp [Array.getElem?_eq_none h'] at h
theorem own_lt {w : World} {B g n cap : Nat} {e : TypeId} {xs : List Value} (h : w.ownsRow B e 1 (.slice (some ⟨g, 0, none⟩) n cap) n xs) : g < w.heap.size := by
  rcases h.2 with ⟨h', _⟩ | ⟨g', cap', cur, h', hb, hg, hnc, _⟩
  · simp at h'
  · simp only [Value.slice.injEq, Option.some.injEq, Addr.mk.injEq, and_true, true_and] at h'
    obtain ⟨rfl, rfl⟩ := h'
    exact lt_of_heap hg

/-- n bytes X at the head of block h. -/
def At (w : World) (p : Option Addr) (h n : Nat) (X : Nat → Int) : Prop :=
  0 < n → p = some ⟨h, 0, none⟩ ∧ h < w.heap.size ∧ ∀ i, i < n → w.cell? ⟨h, i, none⟩ = some (.int .u8 (X i))
theorem At.below {w w' : World} {p : Option Addr} {h n : Nat} {X : Nat → Int} (hA : At w p h n X) {B : Nat} (hb : Below B w w') (hB : w.heap.size ≤ B) : At w' p h n X := fun hn => by
  obtain ⟨h1, h2, h3⟩ := hA hn
  exact ⟨h1, Nat.lt_of_lt_of_le h2 hb.size, fun i hi => (hb.cell (p := ⟨h, i, none⟩) (Nat.lt_of_lt_of_le h2 hB)).trans (h3 i hi)⟩

set_option maxHeartbeats 400000 in
theorem clone_any (p : Option Addr) (n c : Nat) (X : Nat → Int) (w : World) (hI : In w p n X) (hsm : n ≤ 1048576) :
    Calls Tryd.prog 7 #[.slice p n c] w fun e w' => ∃ p', e = .returned (.slice p' n n) ∧ Hid (At w' p' w.heap.size n X) ∧ Below w.heap.size w w' := by
  obtain ⟨i0, hi, hz0, hz1, hz2⟩ := info_parts Tryd.info5
  have HC : Hid (In w p n X) := hI
  cases p with
  | none =>
    have hn0 : n = 0 := by
      rcases Nat.eq_zero_or_pos n with h | h
      · exact h
      · obtain ⟨_, _, h, _⟩ := hI h; cases h
    subst hn0
    clear HC hI
    have hnil : ∀ w, (binOp .eql 22 (.slice none 0 c) (.slice none 0 0)).run Tryd.prog w = .ok (.bool true) w := fun w => Lib.run_eql_slice_nil (P := Tryd.prog) w 22 5 none 0 c 0 0 Tryd.underlying22
    go_enter Tryd.func7, Tryd.ntmps7
    go_wp2
    go_ret
    exact ⟨none, rfl, (fun h => absurd h (by omega)), Below.refl _ _⟩
  | some a =>
    clear hI
    have hnil : ∀ w, (binOp .eql 22 (.slice (some a) n c) (.slice none 0 0)).run Tryd.prog w = .ok (.bool false) w := fun w => Lib.run_eql_slice_nil (P := Tryd.prog) w 22 5 (some a) n c 0 0 Tryd.underlying22
    go_enter Tryd.func7, Tryd.ntmps7
    go_wp2_with (at_make; refine wpList_make_full _ rfl _ _ 22 rfl w.heap.size 5 i0 (.int .u8 0) 1 Tryd.underlying22 hi hz0 hz1 _ _ _ _ n rfl rfl rfl rfl (by rw [hz2]; omega) (by unfold maxLen; omega) (Nat.le_refl _) ?_; intro w1 hown1 hg1)
    have hb1 : Below w.heap.size w w1 := (Below.refl _ _).grown hg1 (Nat.le_refl _) (by intro k hk; cases hk)
    rw [show (madeCells (Value.int .u8 0).cells (n * 1)).toList = filled (fun i => .int .u8 (X i)) (.int .u8 0) 0 n from by rw [Nat.mul_one, filled_zero]; exact toList_madeCells_one _ n] at hown1
    clear hg1 hnil
    go_loopw [4] (fun i wr => ∃ k : Nat, k ≤ n ∧ i = .int .i64 k ∧ wr.ownsRow w.heap.size 5 1 (.slice (some ⟨w.heap.size, 0, none⟩) n n) n (filled (fun i => .int .u8 (X i)) (.int .u8 0) k n) ∧ Below w.heap.size w wr) (fun i _ => n - (intOf i).toNat)
    case atStart => exact ⟨0, Nat.zero_le _, rfl, hown1, hb1⟩
    case round =>
      clear hown1 hb1
      obtain ⟨k, hk, rfl, hown, hbel⟩ := hrel
      by_cases hlt : k < n
      · obtain ⟨b, off, hao, hb, hcell0⟩ := HC.out (by omega)
        have hcell : wr.cell? ⟨b, off + k, none⟩ = some (.int .u8 (X k)) := (hbel.cell (p := ⟨b, off + k, none⟩) hb).trans (hcell0 k hlt)
        clear hcell0 HC
        cases hao
        obtain ⟨u, hu⟩ := filled_some (fun i => .int .u8 (X i)) (.int .u8 0) k n k hlt
        have hc2 : wr.cell? ⟨w.heap.size, k, none⟩ = some u := by rw [hown.cellAt k (by omega)]; exact hu
        have hf2 := hown.frozenAt k
        have hst := hown.stored k (.int .u8 (X k))
        rw [filled_set (fun i => .int .u8 (X i)) _ k n hlt] at hst
        have hbel2 : Below w.heap.size w (wr.setCell ⟨w.heap.size, k, none⟩ (.int .u8 (X k))) := hbel.setCell (Nat.le_refl _) _
        clear hown hu
        go_wp2
        go_roundw
        case rel => exact ⟨k + 1, by omega, by go_num, hst.1, hbel2⟩
        case measure => simp [intOf]; omega
      · obtain rfl : k = n := by omega
        have hfin : Hid (At wr (some ⟨w.heap.size, 0, none⟩) w.heap.size k X) := fun _ => ⟨rfl, own_lt hown, fun i hi => by rw [hown.cellAt i (by omega)]; exact filled_get (fun i => .int .u8 (X i)) (.int .u8 0) k i hi⟩
        clear hown
        go_wp2
        go_ret
        exact ⟨_, rfl, hfin, hbel⟩
end Go.Proofs.Qxb6601496aDoor

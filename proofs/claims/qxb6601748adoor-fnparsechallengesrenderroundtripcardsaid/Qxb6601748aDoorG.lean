/- Seat b6601748aD: asciiLower, laterSameName. -/
import Derived.Test.Qxb6601748aDoorF
import Derived.Laws.IdiomStrings
namespace Go.Proofs.Qxb6601748aDoor
open Go.RowKit Go.PlainAid

/-- 'string(buf)' of a row of the call's own. -/
theorem conv_back {B : Nat} {w : World} {v : Value} {l : List UInt8} (h : w.ownsRow B 5 1 v l.length (Lib.byteCells l)) :
    (convert 46 9 v).run Tryd.prog w = .ok (.string ⟨l.toArray⟩) w := by
  rcases h.2 with ⟨rfl, h0⟩ | ⟨g, cap, cur, rfl, hb, hg, hn, hm, hsz, htk⟩
  · obtain rfl : l = [] := List.eq_nil_of_length_eq_zero h0
    kernel_rfl
  · refine run_convert_bytes_back w 46 9 5 ⟨g, 0, none⟩ cap l Tryd.underlying46 Tryd.underlying5 Tryd.underlying9 ?_
    intro j hj
    have := h.cellAt j (by omega)
    have e : (⟨g, 0, none⟩ : Addr).add j = ⟨g, j, none⟩ := by unfold Addr.add; split <;> simp_all
    rw [e]
    simpa [Lib.byteCells, hj] using this

def filled (f : Nat → Value) (z : Value) (k n : Nat) : List Value := (List.range n).map fun i => if i < k then f i else z
theorem filled_zero (f : Nat → Value) (z : Value) (n : Nat) : filled f z 0 n = List.replicate n z := by
  simp [filled, List.map_const']
theorem filled_set (f : Nat → Value) (z : Value) (k n : Nat) (h : k < n) : (filled f z k n).set k (f k) = filled f z (k + 1) n := by
  apply List.ext_getElem?
  intro j
  rw [List.getElem?_set]
  by_cases hj : k = j
  · subst hj
    simp [filled, h]
  · rw [if_neg hj]
    simp only [filled, List.getElem?_map]
    by_cases hjn : j < n
    · rw [List.getElem?_range hjn]
      simp only [Option.map_some, Option.some.injEq]
      by_cases h1 : j < k
      · rw [if_pos h1, if_pos (by omega)]
      · rw [if_neg h1, if_neg (by omega)]
    · rw [List.getElem?_eq_none (by simp; omega)]; rfl
theorem filled_some (f : Nat → Value) (z : Value) (k n i : Nat) (h : i < n) : ∃ u, (filled f z k n)[i]? = some u := by
  refine ⟨if i < k then f i else z, ?_⟩
  simp [filled, h]

/-- The lower-case text. -/
def low (s : ByteArray) : ByteArray := ⟨(Lib.toLowerA s.data.toList).toArray⟩
def lowI (x : Int) : Int := if 65 ≤ x ∧ x ≤ 90 then x + 32 else x
theorem low_byte (c : UInt8) : ((Lib.lowerB c).toNat : Int) = lowI (c.toNat : Int) := by
  unfold Lib.lowerB Lib.isUpperB lowI
  have hlt := c.toNat_lt
  by_cases h : 65 ≤ c ∧ c ≤ 90
  · have h1 : 65 ≤ c.toNat := UInt8.le_iff_toNat_le.1 h.1
    have h2 : c.toNat ≤ 90 := UInt8.le_iff_toNat_le.1 h.2
    rw [if_pos (by simp [h.1, h.2]), if_pos (by omega)]
    rw [UInt8.toNat_add]
    show (((c.toNat + 32) % 256 : Nat) : Int) = _
    omega
  · have h3 : ¬ (65 ≤ (c.toNat : Int) ∧ (c.toNat : Int) ≤ 90) := fun hh => h ⟨UInt8.le_iff_toNat_le.2 (by show 65 ≤ c.toNat; omega), UInt8.le_iff_toNat_le.2 (by show c.toNat ≤ 90; omega)⟩
    rw [if_neg (by simpa using h), if_neg h3]
theorem low_cells (s : ByteArray) : filled (fun i => .int .u8 (lowI (bt s i))) (.int .u8 0) s.size s.size = Lib.byteCells (Lib.toLowerA s.data.toList) := by
  apply List.ext_getElem?
  intro j
  by_cases hj : j < s.size
  · have hl : j < s.data.toList.length := by simpa using hj
    have e : bt s j = ((s.data.toList[j]).toNat : Int) := by
      unfold bt; rw [dif_pos hj]; rfl
    simp only [filled, Lib.byteCells, Lib.toLowerA, List.getElem?_map, List.getElem?_range hj, List.getElem?_eq_getElem hl, Option.map_some, if_pos hj, Option.some.injEq, Value.int.injEq, true_and]
    rw [low_byte, e]
  · rw [List.getElem?_eq_none (by simp [filled]; omega), List.getElem?_eq_none (by simp [Lib.byteCells, Lib.toLowerA]; omega)]

set_option maxHeartbeats 800000 in
set_option maxRecDepth 100000 in
theorem lower_any (s : ByteArray) (w : World) (hs : s.size ≤ 65536) :
    Calls Tryd.prog 11 #[.string s] w fun e w' => e = .returned (.string (low s)) ∧ Below w.heap.size w w' := by
  obtain ⟨i0, hi, hz0, hz1, hz2⟩ := info_parts Tryd.info5
  have hg := get_bt s
  go_enter Tryd.func11, Tryd.ntmps11
  go_wp2_with (at_make; refine wpList_make_full _ rfl _ _ 46 rfl w.heap.size 5 i0 (.int .u8 0) 1 Tryd.underlying46 hi hz0 hz1 _ _ _ _ s.size rfl rfl rfl rfl (by rw [hz2]; omega) (by unfold maxLen; omega) (Nat.le_refl _) ?_; intro w1 hown1 hg1)
  have hb1 : Below w.heap.size w w1 := (Below.refl _ _).grown hg1 (Nat.le_refl _) (by intro k hk; cases hk)
  rw [show (madeCells (Value.int .u8 0).cells (s.size * 1)).toList = filled (fun i => .int .u8 (lowI (bt s i))) (.int .u8 0) 0 s.size from by rw [Nat.mul_one, filled_zero]; exact toList_madeCells_one _ s.size] at hown1
  clear hg1
  go_loopw [4] (fun i wr => ∃ k : Nat, k ≤ s.size ∧ i = .int .i64 k ∧ wr.ownsRow w.heap.size 5 1 (.slice (some ⟨w.heap.size, 0, none⟩) s.size s.size) s.size (filled (fun i => .int .u8 (lowI (bt s i))) (.int .u8 0) k s.size) ∧ Below w.heap.size w wr) (fun i _ => s.size - (intOf i).toNat)
  case atStart => exact ⟨0, Nat.zero_le _, rfl, hown1, hb1⟩
  case round =>
    clear hown1 hb1
    obtain ⟨k, hk, rfl, hown, hbel⟩ := hrel
    by_cases hlt : k < s.size
    · obtain ⟨u, hu⟩ := filled_some (fun i => .int .u8 (lowI (bt s i))) (.int .u8 0) k s.size k hlt
      have hc2 : wr.cell? ⟨w.heap.size, k, none⟩ = some u := by rw [hown.cellAt k (by omega)]; exact hu
      have hf2 := hown.frozenAt k
      have hst := hown.stored k (.int .u8 (lowI (bt s k)))
      rw [filled_set (fun i => .int .u8 (lowI (bt s i))) _ k s.size hlt] at hst
      have hbel2 : Below w.heap.size w (wr.setCell ⟨w.heap.size, k, none⟩ (.int .u8 (lowI (bt s k)))) := hbel.setCell (Nat.le_refl _) _
      have hbb := bt_bounds s k
      have hst1 : Hid ((wr.setCell ⟨w.heap.size, k, none⟩ (.int .u8 (lowI (bt s k)))).ownsRow w.heap.size 5 1 (.slice (some ⟨w.heap.size, 0, none⟩) s.size s.size) s.size (filled (fun i => .int .u8 (lowI (bt s i))) (.int .u8 0) (k + 1) s.size)) := hst.1
      clear hown hu hst
      by_cases h1 : 65 ≤ bt s k
      · by_cases h2 : bt s k ≤ 90
        · rw [show lowI (bt s k) = bt s k + 32 from if_pos ⟨h1, h2⟩] at hst1 hbel2
          go_wp2
          go_roundw
          case rel => exact ⟨k + 1, by omega, by go_num, hst1.out, hbel2⟩
          case measure => simp [intOf]; omega
        · rw [show lowI (bt s k) = bt s k from if_neg (fun h => h2 h.2)] at hst1 hbel2
          go_wp2
          go_roundw
          case rel => exact ⟨k + 1, by omega, by go_num, hst1.out, hbel2⟩
          case measure => simp [intOf]; omega
      · rw [show lowI (bt s k) = bt s k from if_neg (fun h => h1 h.1)] at hst1 hbel2
        go_wp2
        go_roundw
        case rel => exact ⟨k + 1, by omega, by go_num, hst1.out, hbel2⟩
        case measure => simp [intOf]; omega
    · obtain rfl : k = s.size := by omega
      rw [low_cells s] at hown
      have hcv := conv_back (l := Lib.toLowerA s.data.toList) (by rw [show (Lib.toLowerA s.data.toList).length = s.size by simp [Lib.toLowerA]]; exact hown)
      clear hown
      go_wp2
      go_ret
      exact ⟨rfl, hbel⟩

theorem toList_inj {a b : ByteArray} (h : a.toList = b.toList) : a = b := by
  rw [Lib.toList_data, Lib.toList_data] at h
  exact ByteArray.ext (Array.toList_inj.1 h)

/-- Is there a later parameter of that name? -/
def Later (ps : List Pm) (j : Nat) (nm : ByteArray) : Prop := ∃ k, j < k ∧ k < ps.length ∧ low (pn ps k) = nm

set_option maxHeartbeats 800000 in
theorem later_any (v : Value) (ps : List Pm) (j : Nat) (nm : ByteArray) (w : World) (hP : Prm w v ps) (hS : ∀ k, (pn ps k).size ≤ 65536) (hj : j < ps.length) (hlen : ps.length ≤ 65536) :
    Calls Tryd.prog 12 #[v, .int .i64 j, .string nm] w fun e w' => ((e = .returned (.bool true) ∧ Hid (Later ps j nm)) ∨ (e = .returned (.bool false) ∧ Hid (¬ Later ps j nm))) ∧ Below w.heap.size w w' := by
  obtain ⟨ao, cap, rfl, hn, hc0⟩ := hP
  have HC : Hid (0 < ps.length → ∃ b off, ao = some ⟨b, off, none⟩ ∧ b < w.heap.size ∧ ∀ j, j < ps.length → w.cell? ⟨b, off + j * 2, none⟩ = some (.string (pn ps j)) ∧ w.cell? ⟨b, off + j * 2 + 1, none⟩ = some (.string (pv ps j))) := hc0
  have HS : Hid (∀ k, (pn ps k).size ≤ 65536) := hS
  clear hc0 hS hn
  generalize hl : ps.length = n at *
  have HL : Hid (ps.length = n) := hl
  clear hl
  go_enter Tryd.func12, Tryd.ntmps12
  go_wp2
  go_loopw [7] (fun kv wr => ∃ k : Nat, j + 1 ≤ k ∧ k ≤ n ∧ kv = .int .i64 k ∧ Hid (∀ i, j < i → i < k → low (pn ps i) ≠ nm) ∧ Below w.heap.size w wr) (fun k _ => n - (intOf k).toNat)
  case atStart => exact ⟨j + 1, Nat.le_refl _, by omega, by go_num, (fun i h1 h2 => absurd h2 (by omega)), Below.refl _ _⟩
  case round =>
    obtain ⟨k, hk0, hk, rfl, hall, hbel⟩ := hrel
    by_cases hlt : k < n
    · obtain ⟨b, off, hao, hb, hcell0⟩ := HC.out (by omega)
      have c1 := (hbel.cell (p := ⟨b, off + k * 2, none⟩) hb).trans (hcell0 k hlt).1
      have hsz := HS.out k
      clear hcell0
      subst hao
      go_wp2_with fail
      refine (lower_any (pn ps k) _ hsz).mono ?_
      rintro e w2 ⟨rfl, hb2⟩
      have hbel2 : Below w.heap.size w w2 := hbel.trans (hb2.mono hbel.size)
      by_cases heq : low (pn ps k) = nm
      · have hbe : ((low (pn ps k)).toList == nm.toList) = true := by rw [heq]; simp
        have HLt : Hid (Later ps j nm) := ⟨k, by omega, by rw [HL.out]; exact hlt, heq⟩
        clear heq hb2 hbel
        generalize low (pn ps k) = lw at *
        go_wp2
        go_ret
        exact ⟨Or.inl ⟨rfl, HLt⟩, hbel2⟩
      · have hbe : ((low (pn ps k)).toList == nm.toList) = false := by
          rw [beq_eq_false_iff_ne]
          exact fun h => heq (toList_inj h)
        have hall2 : Hid (∀ i, j < i → i < k + 1 → low (pn ps i) ≠ nm) := fun i h1 h2 => by
          rcases Nat.lt_or_ge i k with h | h
          · exact hall.out i h1 h
          · rw [show i = k by omega]; exact heq
        clear heq hb2 hbel
        generalize low (pn ps k) = lw at *
        go_wp2
        go_roundw
        case rel => exact ⟨k + 1, by omega, by omega, by go_num, hall2, hbel2⟩
        case measure => simp [intOf]; omega
    · have HN : Hid (¬ Later ps j nm) := fun ⟨i, h1, h2, h3⟩ => hall.out i h1 (by rw [HL.out] at h2; omega) h3
      go_wp2
      go_ret
      exact ⟨Or.inr ⟨rfl, HN⟩, hbel⟩
end Go.Proofs.Qxb6601748aDoor

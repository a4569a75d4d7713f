/- Seat b6601214aD: split, SplitPath. -/
import Derived.Test.Qxb6601214aDoorF
import Derived.Test.Qxb6601214aDoorShelf
import Derived.Shelf.GgClosure.Gives
namespace Go.Proofs.Qxb6601214aDoor
open Go.RowKit Go.PlainAid Go.Sort Go.Shelf

/-- What split's closure answers. -/
def delB (x : ByteArray) : Bool := x.toList.isEmpty || x.toList == [46]

set_option maxHeartbeats 400000 in
theorem split1_any (x : ByteArray) (w : World) :
    Calls Tryd.prog 40 #[.string x] w fun e w' => e = .returned (.bool (delB x)) ∧ w' = w := by
  go_enter Tryd.func40, Tryd.ntmps40
  go_wp2
  · go_ret
    rename_i h
    exact ⟨by simp [delB, h], rfl⟩
  · go_ret
    exact ⟨rfl, rfl⟩

theorem heap_putRow_other {α : Type} [Inhabited α] (enc : α → Value) (w : World) (blk off : Nat) (d : Array α) (k : Nat) (h : k ≠ blk) : (putRow enc w blk off d).heap[k]? = w.heap[k]? := by
  simp only [putRow, mapBlock, Array.getElem?_modify]
  rw [if_neg (fun e => h e.symm)]

theorem below_putRow {α : Type} [Inhabited α] {enc : α → Value} {B : Nat} {a w : World} (h : Below B a w) (q blk off : Nat) (hb : B ≤ blk) (d : Array α) : Below B a (putRow enc (Sort.ahead w q) blk off d) :=
  ⟨h.os, h.tape, h.output, by rw [size_putRow]; exact h.size, fun k hk => by rw [heap_putRow_other _ _ _ _ _ _ (by omega)]; exact h.block k hk⟩

theorem fn40 : ∀ args w, (callFunc 40 args).run Tryd.prog w = .ok (.enter 40 args) w := enters_of Tryd.func40 (by kernel_rfl) rfl

/-- The pieces between the slashes; those that split keeps. -/
def pieces (s : ByteArray) : List ByteArray := Lib.splitB ⟨#[47]⟩ 0 (Lib.countB s ⟨#[47]⟩) s
def segs (s : ByteArray) : List ByteArray := (pieces s).filter fun x => !delB x

theorem pieces_len (s : ByteArray) : (pieces s).length = Lib.countB s ⟨#[47]⟩ + 1 := Lib.splitB_all _ (by decide) 0 _ s rfl
theorem pieces_data (s : ByteArray) : (pieces s).map (·.data.toList) = cut s.data.toList := by
  unfold pieces
  rw [Lib.splitB_data]
  exact split_cut s.data.toList
theorem pieces_le (s : ByteArray) : (pieces s).length ≤ s.size + 1 := by
  rw [pieces_len]
  have := Lib.countB_le ⟨#[47]⟩ (by decide) s.size s (Nat.le_refl _)
  omega

theorem oneCell_str : OneCell Value.string := fun _ => rfl
theorem pred40 (w : World) : PredAt Tryd.prog 40 #[] Value.string delB w := fun W x _ => (split1_any x W).mono fun _ _ ⟨h1, h2⟩ => ⟨h1, 0, h2⟩
theorem predOver40 (blk off size : Nat) (w : World) : PredOver Tryd.prog 40 #[] Value.string delB blk off size w := fun _ _ _ x _ => (split1_any x _).mono fun _ _ ⟨h1, h2⟩ => ⟨h1, 0, h2⟩

theorem sg_get {ss : List ByteArray} {i : Nat} (h : i < ss.length) : ss[i]? = some (sg ss i) := by
  unfold sg; rw [List.getD_eq_getElem?_getD, List.getElem?_eq_getElem h]; rfl

theorem del_any (s : ByteArray) (w : World) (hs : s.size ≤ 1048576) :
    Calls Tryd.prog 38 #[.slice (some ⟨w.heap.size, 0, none⟩) (Lib.countB s ⟨#[47]⟩ + 1) (Lib.countB s ⟨#[47]⟩ + 1), .func (.func 40) #[] #[]] (w.alloc (.cells ((Lib.splitB ⟨#[47]⟩ 0 (Lib.countB s ⟨#[47]⟩) s).map Value.string).toArray 9)) fun e w' =>
      ∃ v, e = .returned v ∧ Hid (Strs w' v (segs s)) ∧ Below w.heap.size w w' := by
  rw [show Lib.splitB ⟨#[47]⟩ 0 (Lib.countB s ⟨#[47]⟩) s = pieces s from rfl, ← pieces_len]
  have hle := pieces_le s
  have hH : Holds Value.string (w.alloc (.cells ((pieces s).map Value.string).toArray 9)) w.heap.size 0 (pieces s).toArray := by
    intro j hj
    have hj' : j < (pieces s).length := by simpa using hj
    refine ⟨?_, by simp⟩
    rw [World.cell?_alloc_new]
    simp [hj']
  have D := Tryd.slices_DeleteFunc Value.string oneCell_str delB 40 #[] fn40 ByteArray.empty (fun w => Tryd.zeroValue9 w) w.heap.size 0 (pieces s).length (pieces s).toArray _ (pred40 _) (predOver40 _ _ _ _) hH (by simp; omega) (by simp)
  simp only [List.size_toArray] at D
  refine D.mono ?_
  rintro e w' ⟨rfl, q, rfl⟩
  have hfl : ((pieces s).filter fun x => !delB x).length ≤ (pieces s).length := List.length_filter_le _ _
  refine ⟨_, rfl, ?_, below_putRow ((Below.refl _ _).alloc (Nat.le_refl _) _) q _ _ (Nat.le_refl _) _⟩
  show Strs _ _ _
  refine ⟨_, _, rfl, hfl, by show (List.filter _ _).length ≤ _; omega, fun hne => ⟨_, _, rfl, by simp, fun i hi => ?_⟩⟩
  have hi' : i < ((pieces s).filter fun x => !delB x).length := hi
  rw [cell?_putRow Value.string (Sort.ahead (w.alloc _) q) w.heap.size 0 (pieces s).toArray _ (holds_ahead _ _ q _ _ _ hH) (by simp; omega) i (by simp; omega)]
  congr 2
  rw [getElem!_pos _ i (by simp; omega)]
  have h1 := sg_get hi
  have h2 : (segs s ++ List.replicate ((pieces s).length - (segs s).length) ByteArray.empty)[i]? = some (sg (segs s) i) := by
    rw [List.getElem?_append_left hi]; exact h1
  exact Option.some.inj ((List.getElem?_eq_getElem (by simp; omega)).symm.trans h2)

set_option maxHeartbeats 400000 in
theorem split_any (s : ByteArray) (w : World) (hs : s.size ≤ 1048576) (hm : ∃ m, w.cell? ⟨0, 0, none⟩ = some (.int .i64 m)) :
    Calls Tryd.prog 24 #[.string s] w fun e w' => ∃ v, e = .returned v ∧ Hid (Strs w' v (segs s)) ∧ Below w.heap.size w w' := by
  obtain ⟨m, hm⟩ := hm
  go_enter Tryd.func24, Tryd.ntmps24
  go_wp2_with (first
    | (go_at_call 39; refine (Tryd.strings_Split s ⟨#[47]⟩ m w (by omega) hm (by decide)).mono ?_; rintro e w' ⟨rfl, rfl⟩)
    | (go_at_call 38; refine (del_any s w hs).mono ?_; rintro e w' ⟨v, rfl, hv, hb⟩))
  go_ret
  exact ⟨_, rfl, hv, hb⟩

set_option maxHeartbeats 400000 in
theorem splitPath_any (s : ByteArray) (w : World) (hs : s.size ≤ 1048576) (hm : ∃ m, w.cell? ⟨0, 0, none⟩ = some (.int .i64 m)) :
    Calls Tryd.prog 15 #[.string s] w fun e w' => ∃ v, e = .returned v ∧ Hid (Strs w' v (segs s)) ∧ Below w.heap.size w w' := by
  have HM : Hid (∃ m, w.cell? ⟨0, 0, none⟩ = some (.int .i64 m)) := hm
  clear hm
  go_enter Tryd.func15, Tryd.ntmps15
  go_wp2_with (go_at_call 24; refine (split_any s w hs HM.out).mono ?_; rintro e w' ⟨v, rfl, hv, hb⟩)
  go_ret
  exact ⟨_, rfl, hv, hb⟩
end Go.Proofs.Qxb6601214aDoor

/- Seat b6601214aD: matchSegment and Match. -/
import Derived.Test.Qxb6601214aDoorH
import Derived.Deep.RegionWith
namespace Go.Proofs.Qxb6601214aDoor
open Go.RowKit Go.PlainAid Go.Sort Go.Shelf

def segM (seg name : ByteArray) : Bool := mval (fun i => bt seg i == 42) (fun i j => bt seg i == bt name j) seg.size name.size
def isSS (s : ByteArray) : Bool := s.toList == [42, 42]
def pathM (ss ps : List ByteArray) : Bool := mval (fun i => isSS (sg ss i)) (fun i j => segM (sg ss i) (sg ps j)) ss.length ps.length

theorem fn41 : ∀ args w, (callFunc 41 args).run Tryd.prog w = .ok (.enter 41 args) w := enters_of Tryd.func41 (by kernel_rfl) rfl
theorem fn42 : ∀ args w, (callFunc 42 args).run Tryd.prog w = .ok (.enter 42 args) w := enters_of Tryd.func42 (by kernel_rfl) rfl
theorem fn26 : ∀ args w, (callFunc 26 args).run Tryd.prog w = .ok (.enter 26 args) w := enters_of Tryd.func26 (by kernel_rfl) rfl
theorem fn27 : ∀ args w, (callFunc 27 args).run Tryd.prog w = .ok (.enter 27 args) w := enters_of Tryd.func27 (by kernel_rfl) rfl

set_option maxHeartbeats 400000 in
theorem seg1_any (seg : ByteArray) (i b : Nat) (w : World) (hi : i < seg.size) (_hs : seg.size ≤ 1048576) (hc : w.cell? ⟨b, 0, none⟩ = some (.string seg)) :
    Calls Tryd.prog 41 #[.int .i64 i, .pointer (some ⟨b, 0, none⟩)] w fun e w' => e = .returned (.bool (bt seg i == 42)) ∧ Below w.heap.size w w' := by
  have hg := get_bt seg
  go_enter Tryd.func41, Tryd.ntmps41
  go_wp2
  go_ret
  exact ⟨rfl, Below.refl _ _⟩

set_option maxHeartbeats 400000 in
theorem seg2_any (seg name : ByteArray) (i j b c : Nat) (w : World) (hi : i < seg.size) (hj : j < name.size) (_hs : seg.size ≤ 1048576) (_hs2 : name.size ≤ 1048576) (hb : w.cell? ⟨b, 0, none⟩ = some (.string seg)) (hc : w.cell? ⟨c, 0, none⟩ = some (.string name)) :
    Calls Tryd.prog 42 #[.int .i64 i, .int .i64 j, .pointer (some ⟨b, 0, none⟩), .pointer (some ⟨c, 0, none⟩)] w fun e w' => e = .returned (.bool (bt seg i == bt name j)) ∧ Below w.heap.size w w' := by
  have hg := get_bt seg
  have hg2 := get_bt name
  have hi2 : (i : Int) < (seg.size : Int) := by omega
  have hj2 : (j : Int) < (name.size : Int) := by omega
  go_enter Tryd.func42, Tryd.ntmps42
  go_wp2
  go_quiet (fail)
  go_wp2
  go_ret
  exact ⟨rfl, below_drewN (Below.refl _ _) _⟩

set_option maxHeartbeats 400000 in
theorem matchSegment_any (seg name : ByteArray) (w : World) (hs : seg.size ≤ 1048576) (hs2 : name.size ≤ 1048576) :
    Calls Tryd.prog 28 #[.string seg, .string name] w fun e w' => e = .returned (.bool (segM seg name)) ∧ Below w.heap.size w w' := by
  go_enter Tryd.func28, Tryd.ntmps28
  go_wp2_with fail
  refine (match_any 41 42 #[.pointer (some ⟨w.heap.size, 0, none⟩)] #[.pointer (some ⟨w.heap.size, 0, none⟩), .pointer (some ⟨w.heap.size + 1, 0, none⟩)] fn41 fn42 (fun i => bt seg i == 42) (fun i j => bt seg i == bt name j) seg.size name.size _ (by omega) (by omega) ?_ ?_).mono ?_
  · intro W i hb hi
    refine seg1_any seg i _ W hi hs ((hb.cell (p := ⟨w.heap.size, 0, none⟩) (by simp; omega)).trans ?_)
    simp
  · intro W i j hb hi hj
    refine seg2_any seg name i j _ _ W hi hj hs hs2 ((hb.cell (p := ⟨w.heap.size, 0, none⟩) (by simp; omega)).trans ?_) ((hb.cell (p := ⟨w.heap.size + 1, 0, none⟩) (by simp)).trans ?_)
    · simp
    · simp
  · rintro e w1 ⟨rfl, hb⟩
    go_wp2
    go_ret
    exact ⟨rfl, (((Below.refl _ _).alloc (Nat.le_refl _) _).alloc (by simp) _).trans (hb.mono (by simp; omega))⟩

set_option maxHeartbeats 400000 in
theorem path1_any (v : Value) (ss : List ByteArray) (i b : Nat) (w : World) (hi : i < ss.length) (hS : Strs w v ss) (hc : w.cell? ⟨b, 0, none⟩ = some v) :
    Calls Tryd.prog 26 #[.int .i64 i, .pointer (some ⟨b, 0, none⟩)] w fun e w' => e = .returned (.bool (isSS (sg ss i))) ∧ Below w.heap.size w w' := by
  obtain ⟨ao, cap, rfl, hn, HC⟩ := hS.sized
  obtain ⟨b2, off, rfl, hb, hcell0⟩ := HC.out (by omega)
  have hcell := hcell0 i hi
  clear hcell0 HC hS
  generalize ss.length = n at *
  go_enter Tryd.func26, Tryd.ntmps26
  go_wp2
  go_ret
  exact ⟨rfl, Below.refl _ _⟩

set_option maxHeartbeats 1000000 in
theorem path2_any (v u : Value) (ss ps : List ByteArray) (i j b c : Nat) (w : World) (hi : i < ss.length) (hj : j < ps.length) (hS : Strs w v ss) (hP : Strs w u ps) (hs : (sg ss i).size ≤ 1048576) (hs2 : (sg ps j).size ≤ 1048576) (hb : w.cell? ⟨b, 0, none⟩ = some v) (hc : w.cell? ⟨c, 0, none⟩ = some u) :
    Calls Tryd.prog 27 #[.int .i64 i, .int .i64 j, .pointer (some ⟨b, 0, none⟩), .pointer (some ⟨c, 0, none⟩)] w fun e w' => e = .returned (.bool (segM (sg ss i) (sg ps j))) ∧ Below w.heap.size w w' := by
  obtain ⟨ao, cap, rfl, hn, HC⟩ := hS.sized
  obtain ⟨b2, off, rfl, hb2, hcell0⟩ := HC.out (by omega)
  have hcell := hcell0 i hi
  obtain ⟨ao3, cap3, rfl, hn3, HC3⟩ := hP.sized
  obtain ⟨b3, off3, rfl, hb3, hcell3⟩ := HC3.out (by omega)
  have hcell4 := hcell3 j hj
  clear hcell0 HC hS HC3 hP hcell3
  have hi2 : (i : Int) < (ss.length : Int) := by omega
  have hj2 : (j : Int) < (ps.length : Int) := by omega
  generalize ss.length = n at *
  generalize ps.length = m at *
  generalize sg ss i = seg at *
  generalize sg ps j = name at *
  go_enter Tryd.func27, Tryd.ntmps27
  go_wp2
  go_region_with (go_at_call 28; refine (matchSegment_any _ _ _ hs hs2).mono ?_; rintro e w1 ⟨rfl, hb1⟩)
  all_goals
    go_wp2
    go_ret
    exact ⟨rfl, (Below.refl _ w).drew.trans (by assumption)⟩

end Go.Proofs.Qxb6601214aDoor

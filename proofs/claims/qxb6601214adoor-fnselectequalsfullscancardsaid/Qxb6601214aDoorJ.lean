/- Seat b6601214aD: Match; base. -/
import Derived.Test.Qxb6601214aDoorI
namespace Go.Proofs.Qxb6601214aDoor
open Go.RowKit Go.PlainAid Go.Sort Go.Shelf

theorem cell3_last (w : World) (a b : Obj) (c : Value) (t : TypeId) : (((w.alloc a).alloc b).alloc (.cells #[c] t)).cell? ⟨w.heap.size + 1 + 1, 0, none⟩ = some c := by
  have := World.cell?_alloc_new (w := (w.alloc a).alloc b) #[c] t 0
  simp only [World.size_alloc] at this
  rw [this]; rfl
theorem cell3_mid (w : World) (a b : Obj) (c : Value) (t : TypeId) : (((w.alloc a).alloc (.cells #[c] t)).alloc b).cell? ⟨w.heap.size + 1, 0, none⟩ = some c := by
  rw [World.cell?_alloc_lt _ _ _ (by simp)]
  simp

set_option maxHeartbeats 1000000 in
theorem match_calls (v u : Value) (ss ps : List ByteArray) (w : World) (hS : Strs w v ss) (hP : Strs w u ps) (hsm : Small ss) (hsm2 : ps.length ≤ 1048577 ∧ ∀ i, i < ps.length → (sg ps i).size ≤ 1048576) :
    Calls Tryd.prog 16 #[.agg #[v], u] w fun e w' => e = .returned (.bool (pathM ss ps)) ∧ Below w.heap.size w w' := by
  have HS : Hid (Strs w v ss) := hS
  have HP : Hid (Strs w u ps) := hP
  have HSM : Hid (Small ss) := hsm
  have HSM2 : Hid (∀ i, i < ps.length → (sg ps i).size ≤ 1048576) := hsm2.2
  have hl1 := hsm.1
  have hl2 := hsm2.1
  obtain ⟨ao, cap, rfl, hn, HC⟩ := hS.sized
  obtain ⟨ao3, cap3, rfl, hn3, HC3⟩ := hP.sized
  clear HC HC3 hS hP hsm hsm2
  go_enter Tryd.func16, Tryd.ntmps16
  go_wp2_with fail
  have hal : Below w.heap.size w (((w.alloc (.cells #[.slice ao ss.length cap] 38)).alloc (.cells #[.slice ao3 ps.length cap3] 35)).alloc (.cells #[.slice ao ss.length cap] 23)) :=
    (((Below.refl _ _).alloc (Nat.le_refl _) _).alloc (by simp) _).alloc (by simp; omega) _
  refine (match_any 26 27 #[.pointer (some ⟨w.heap.size + 1 + 1, 0, none⟩)] #[.pointer (some ⟨w.heap.size + 1 + 1, 0, none⟩), .pointer (some ⟨w.heap.size + 1, 0, none⟩)] fn26 fn27 (fun i => isSS (sg ss i)) (fun i j => segM (sg ss i) (sg ps j)) ss.length ps.length _ (by omega) hl2 ?_ ?_).mono ?_
  · intro W i hb hi
    have hW : Below w.heap.size w W := hal.trans (hb.mono (by simp; omega))
    refine path1_any _ ss i _ W hi (HS.out.below hW (Nat.le_refl _)) ((hb.cell (p := ⟨w.heap.size + 1 + 1, 0, none⟩) (by simp)).trans ?_)
    exact cell3_last _ _ _ _ _
  · intro W i j hb hi hj
    have hW : Below w.heap.size w W := hal.trans (hb.mono (by simp; omega))
    refine path2_any _ _ ss ps i j _ _ W hi hj (HS.out.below hW (Nat.le_refl _)) (HP.out.below hW (Nat.le_refl _)) (HSM.out.2 i hi) (HSM2.out j hj) ((hb.cell (p := ⟨w.heap.size + 1 + 1, 0, none⟩) (by simp)).trans ?_) ((hb.cell (p := ⟨w.heap.size + 1, 0, none⟩) (by simp)).trans ?_)
    · exact cell3_last _ _ _ _ _
    · exact cell3_mid _ _ _ _ _
  · rintro e w1 ⟨rfl, hb⟩
    go_wp2
    go_ret
    exact ⟨rfl, hal.trans (hb.mono (by simp; omega))⟩

/-! ### base -/
/-- The leading segments without a star. -/
def lead (ss : List ByteArray) : List ByteArray := ss.takeWhile fun x => !star x
def baseS (ss : List ByteArray) : ByteArray := ⟨(Lib.join ((lead ss).map (·.data.toList)) [47]).toArray⟩

set_option maxHeartbeats 400000 in
theorem base1_any (x : ByteArray) (w : World) :
    Calls Tryd.prog 31 #[.string x] w fun e w' => e = .returned (.bool (star x)) ∧ w' = w := by
  go_enter Tryd.func31, Tryd.ntmps31
  go_wp2_with (go_at_call 32; refine (Tryd.strings_Contains_one x 42 w).mono ?_; rintro e w' ⟨rfl, rfl⟩)
  go_ret
  exact ⟨rfl, rfl⟩
theorem fn31 : ∀ args w, (callFunc 31 args).run Tryd.prog w = .ok (.enter 31 args) w := enters_of Tryd.func31 (by kernel_rfl) rfl
theorem pred31 (w : World) : PredAt Tryd.prog 31 #[] Value.string star w := fun W x _ => (base1_any x W).mono fun _ _ ⟨h1, h2⟩ => ⟨h1, 0, h2⟩

theorem lead_len {ss : List ByteArray} (h : SomeStar ss) : (lead ss).length < ss.length ∧ star (sg ss (lead ss).length) = true ∧ (∀ i, i < (lead ss).length → star (sg ss i) = false) ∧ ss.take (lead ss).length = lead ss := by
  induction ss with
  | nil => obtain ⟨i, hi, _⟩ := h; simp at hi
  | cons x ss ih =>
    by_cases hx : star x = true
    · have e : lead (x :: ss) = [] := by simp [lead, hx]
      rw [e]
      exact ⟨by simp, by simpa [sg] using hx, fun i hi => by simp at hi, rfl⟩
    · have hx' : star x = false := by simpa using hx
      have e : lead (x :: ss) = x :: lead ss := by simp [lead, hx']
      have h2 : SomeStar ss := by
        obtain ⟨i, hi, hs⟩ := h
        cases i with
        | zero => simp [sg, hx'] at hs
        | succ i => exact ⟨i, by simpa using hi, by simpa [sg] using hs⟩
      obtain ⟨a, b, c, d⟩ := ih h2
      rw [e]
      refine ⟨by simpa using a, by simpa [sg] using b, fun i hi => ?_, by simp [d]⟩
      cases i with
      | zero => simpa [sg] using hx'
      | succ i => have := c i (by simpa using hi); simpa [sg] using this

theorem sg_bang {ss : List ByteArray} {i : Nat} (h : i < ss.length) : ss[i]! = sg ss i := by
  rw [getElem!_pos ss i h]
  have := sg_get h
  rw [List.getElem?_eq_getElem h] at this
  exact Option.some.inj this

theorem idx_lead {ss : List ByteArray} (h : SomeStar ss) : Lib.idxBy (fun _ y => star y) (ss.take ss.length) default = ((lead ss).length : Nat) := by
  obtain ⟨a, b, c, _⟩ := lead_len h
  exact Lib.idxBy_hit _ ss ss.length (lead ss).length default a (Nat.le_refl _) (by show star _ = true; rw [sg_bang a]; exact b) (fun j hj => by show star _ = false; rw [sg_bang (by omega)]; exact c j hj)

theorem join_len (N : Nat) : ∀ (l : List (List UInt8)), (∀ p ∈ l, p.length ≤ N) → (Lib.joinTail [47] l).length ≤ l.length * (N + 1)
  | [], _ => by simp [Lib.joinTail]
  | x :: l, h => by
    rw [joinTail_cons]
    have h1 := h x (by simp)
    have h2 := join_len N l (fun p hp => h p (by simp [hp]))
    simp only [List.length_cons, List.length_append, Nat.succ_mul]
    omega
theorem base_len {ss : List ByteArray} (h : SomeStar ss) (hsm : Small ss) : (Lib.join ((lead ss).map (·.data.toList)) [47]).length ≤ 2199024304128 := by
  obtain ⟨a, _, _, d⟩ := lead_len h
  have hall : ∀ p ∈ (lead ss).map (·.data.toList), p.length ≤ 1048576 := by
    intro p hp
    obtain ⟨x, hx, rfl⟩ := List.mem_map.1 hp
    rw [← d] at hx
    obtain ⟨j, hj, rfl⟩ := List.mem_iff_getElem.1 hx
    rw [List.length_take] at hj
    rw [List.getElem_take]
    have hj2 : j < ss.length := by omega
    have := hsm.2 j hj2
    have e := sg_get hj2
    rw [List.getElem?_eq_getElem hj2] at e
    rw [Option.some.inj e]
    simpa using this
  have hl : ((lead ss).map (·.data.toList)).length ≤ 1048576 := by rw [List.length_map]; have := hsm.1; omega
  cases hm : (lead ss).map (·.data.toList) with
  | nil => simp [Lib.join_nil]
  | cons x r =>
    rw [hm] at hall hl
    rw [Lib.join_cons, List.length_append]
    have h1 := hall x (by simp)
    have h2 := join_len 1048576 r (fun p hp => hall p (by simp [hp]))
    have h3 : r.length * (1048576 + 1) ≤ 1048576 * (1048576 + 1) := Nat.mul_le_mul_right _ (by simp at hl; omega)
    omega

set_option maxHeartbeats 1000000 in
theorem base_any (v : Value) (ss : List ByteArray) (w : World) (hS : Strs w v ss) (hsm : Small ss) (hst : SomeStar ss) :
    Calls Tryd.prog 20 #[.agg #[v]] w fun e w' => e = .returned (.string (baseS ss)) ∧ Below w.heap.size w w' := by
  obtain ⟨a, b, c, d⟩ := lead_len hst
  have hbl := base_len hst hsm
  have hidx := idx_lead hst
  have hcap : ∃ cap, ∃ b2 off, v = .slice (some ⟨b2, off, none⟩) ss.length cap ∧ ss.length ≤ cap ∧ b2 < w.heap.size ∧ ∀ i, i < ss.length → w.cell? ⟨b2, off + i, none⟩ = some (.string (sg ss i)) := by
    rcases hS.form with ⟨rfl, _⟩ | ⟨b2, off, cap, rfl, h1, h2, h3, h4, h5⟩
    · simp at a
    · exact ⟨cap, b2, off, rfl, h2, h4, h5⟩
  obtain ⟨cap, b2, off, rfl, hc1, hb2, hcells⟩ := hcap
  have hl := hsm.1
  have HI : Hid (Lib.idxBy (fun _ y => star y) (ss.take ss.length) default = ((lead ss).length : Nat)) := hidx
  have HD : Hid (ss.take (lead ss).length = lead ss) := d
  have HCells : Hid (∀ i, i < ss.length → w.cell? ⟨b2, off + i, none⟩ = some (.string (sg ss i))) := hcells
  have HB : Hid ((Lib.join ((lead ss).map (·.data.toList)) [47]).length ≤ 2199024304128) := hbl
  clear hidx d hcells hS hst hsm b c hbl
  have C1 : Hid (∀ W, Below w.heap.size w W → Calls Tryd.prog 30 #[.slice (some ⟨b2, off, none⟩) ss.length cap, .func (.func 31) #[] #[]] W fun e w' => e = .returned (.int .i64 ((lead ss).length : Nat)) ∧ Below W.heap.size W w') := fun W hW => by
    have := Tryd.slices_IndexFunc Value.string star 31 #[] fn31 b2 off ss.length cap ss W (pred31 W) (Nat.le_refl _) (by omega) (fun j hj => by rw [sg_bang hj]; exact (hW.cell (p := ⟨b2, off + j, none⟩) hb2).trans (HCells.out j hj))
    rw [HI.out] at this
    exact this.mono fun e w' ⟨h1, q, h2⟩ => ⟨h1, by rw [h2]; exact below_drewN (Below.refl _ _) q⟩
  have C2 : Hid (∀ W, Below w.heap.size w W → Calls Tryd.prog 33 #[.slice (some ⟨b2, off, none⟩) (lead ss).length cap, .string ⟨#[47]⟩] W fun e w' => e = .returned (.string (baseS ss)) ∧ Below W.heap.size W w') := fun W hW => by
    rcases Nat.eq_zero_or_pos (lead ss).length with h0 | h0
    · rw [h0]
      have e : baseS ss = ⟨#[]⟩ := by
        unfold baseS; rw [List.length_eq_zero_iff.1 h0]; rfl
      rw [e]
      exact (Tryd.strings_Join_none (some ⟨b2, off, none⟩) cap ⟨#[47]⟩ W).mono fun e w' ⟨h1, h2⟩ => ⟨h1, by rw [h2]; exact Below.refl _ _⟩
    · have hb3 : b2 < W.heap.size := Nat.lt_of_lt_of_le hb2 hW.size
      refine Tryd.strings_Join b2 off cap (lead ss) ⟨#[47]⟩ W (fun j x hj => ?_) hb3 (by omega) (by omega) (by have := HB.out; exact Nat.le_trans this (by omega))
      have hjl : j < (lead ss).length := by
        rcases Nat.lt_or_ge j (lead ss).length with h | h
        · exact h
        · rw [List.getElem?_eq_none h] at hj; cases hj
      rw [hW.cell (p := ⟨b2, off + j, none⟩) hb2, HCells.out j (by omega)]
      congr 2
      rw [← HD.out, List.getElem?_take_of_lt hjl, sg_get (by omega)] at hj
      exact Option.some.inj hj
  clear HI HD HCells HB hb2
  generalize (lead ss).length = n at *
  generalize ss.length = l at *
  go_enter Tryd.func20, Tryd.ntmps20
  go_wp2_with fail
  refine (C1.out _ ((Below.refl _ _).alloc (Nat.le_refl _) _)).mono ?_
  rintro e w1 ⟨rfl, hb1⟩
  have hc : w1.cell? ⟨w.heap.size, 0, none⟩ = some (.slice (some ⟨b2, off, none⟩) l cap) := (hb1.cell (p := ⟨w.heap.size, 0, none⟩) (by simp)).trans (by simp)
  have hbA : Below w.heap.size w w1 := ((Below.refl _ _).alloc (Nat.le_refl _) _).trans (hb1.mono (by simp))
  go_wp2_with fail
  refine (C2.out _ hbA).mono ?_
  rintro e w2 ⟨rfl, hb2⟩
  go_wp2
  go_ret
  exact ⟨rfl, hbA.trans (hb2.mono hbA.size)⟩
end Go.Proofs.Qxb6601214aDoor

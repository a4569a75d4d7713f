/- Seat b6601496aD: bytes.IndexByte, indexEither, bytes.TrimLeft, cutField. -/
import Derived.Test.Qxb6601496aDoorShelf
import Derived.Test.Qxb6601496aDoorA
import Derived.Lib.IndexLaws
import Derived.Lib.SlTrimSet
import Derived.Deep.RegionWith
namespace Go.Proofs.Qxb6601496aDoor
open Go.RowKit Go.PlainAid

def Byt (X : Nat → Int) : Prop := ∀ i, 0 ≤ X i ∧ X i < 256
def lst (X : Nat → Int) (n : Nat) : List Int := (List.range n).map X
theorem lst_len (X : Nat → Int) (n : Nat) : (lst X n).length = n := by simp [lst]
theorem lst_getD (X : Nat → Int) {n i : Nat} (h : i < n) : (lst X n).getD i 0 = X i := by simp [lst, List.getD, h]
theorem bytes_get (X : Nat → Int) (n i : Nat) : (Lib.bytesOf (lst X n))[i]? = if i < n then some (UInt8.ofNat (X i).toNat) else none := by
  by_cases h : i < n
  · simp [Lib.bytesOf, lst, h]
  · simp [Lib.bytesOf, lst, h]
theorem u8_inj {a b : Int} (ha : 0 ≤ a ∧ a < 256) (hb : 0 ≤ b ∧ b < 256) (h : UInt8.ofNat a.toNat = UInt8.ofNat b.toNat) : a = b := by
  have h1 := congrArg UInt8.toNat h
  rw [UInt8.toNat_ofNat', UInt8.toNat_ofNat'] at h1
  omega

/-- An index, or -1. -/
def ixV (n k : Nat) : Int := if k < n then (k : Int) else -1

theorem index_plain {X : Nat → Int} (hX : Byt X) (n : Nat) {cv : Int} (hcv : 0 ≤ cv ∧ cv < 256) : Lib.indexByte (Lib.bytesOf (lst X n)) cv.toNat.toUInt8 = ixV n (scan (fun j => X j == cv) n 0) := by
  have hge := Lib.indexByte_ge (Lib.bytesOf (lst X n)) cv.toNat.toUInt8
  by_cases h : Lib.indexByte (Lib.bytesOf (lst X n)) cv.toNat.toUInt8 = -1
  · have hno := Lib.indexByte_none h
    have hs : scan (fun j => X j == cv) n 0 = n := scan_uniq (Nat.zero_le _) (Nat.le_refl _) (fun j _ hj => by
      have := hno j
      rw [bytes_get, if_pos hj] at this
      simp only [beq_eq_false_iff_ne, ne_eq]
      intro e
      apply this
      rw [e]) (fun hh => absurd hh (Nat.lt_irrefl _))
    rw [h, hs, ixV, if_neg (Nat.lt_irrefl _)]
  · obtain ⟨o, ho⟩ : ∃ o : Nat, Lib.indexByte (Lib.bytesOf (lst X n)) cv.toNat.toUInt8 = o := ⟨(Lib.indexByte (Lib.bytesOf (lst X n)) cv.toNat.toUInt8).toNat, by omega⟩
    obtain ⟨h1, h2⟩ := Lib.indexByte_some ho
    rw [bytes_get] at h1
    by_cases hon : o < n
    · rw [if_pos hon] at h1
      have hxo : X o = cv := u8_inj (hX o) hcv (by simpa using h1)
      have hs : scan (fun j => X j == cv) n 0 = o := scan_uniq (Nat.zero_le _) (Nat.le_of_lt hon) (fun j _ hj => by
        have := h2 j hj
        rw [bytes_get, if_pos (by omega)] at this
        simp only [beq_eq_false_iff_ne, ne_eq]
        intro e
        apply this
        rw [e]) (fun _ => by simp [hxo])
      rw [ho, hs, ixV, if_pos hon]
    · rw [if_neg hon] at h1; cases h1

/-- n cells from ⟨b, o⟩ on hold the bytes X. -/
def Cel (w : World) (b o n : Nat) (X : Nat → Int) : Prop := ∀ i, i < n → w.cell? ⟨b, o + i, none⟩ = some (.int .u8 (X i))

theorem index_any (b o n c : Nat) (X : Nat → Int) (hX : Byt X) (cv : Int) (hcv : 0 ≤ cv ∧ cv < 256) (w : World) (hc : Cel w b o n X) :
    Calls Tryd.prog 20 #[.slice (some ⟨b, o, none⟩) n c, .int .u8 cv] w fun e w' => e = .returned (.int .i64 (ixV n (scan (fun j => X j == cv) n 0))) ∧ w' = w := by
  have h := Tryd.bytes_IndexByte b o n c (lst X n) cv w (lst_len X n) (fun i hi => by rw [lst_getD X hi]; exact hc i hi)
  rw [index_plain hX n hcv] at h
  exact h

def bl (X : Nat → Int) (i : Nat) : Bool := blank (X i)
def nb (X : Nat → Int) (i : Nat) : Bool := !blank (X i)

theorem either_some {X : Nat → Int} {n : Nat} (h : scan (fun j => X j == 32) n 0 < n) :
    scan (bl X) n 0 = if scan (fun j => X j == 9) (scan (fun j => X j == 32) n 0) 0 < scan (fun j => X j == 32) n 0 then scan (fun j => X j == 9) (scan (fun j => X j == 32) n 0) 0 else scan (fun j => X j == 32) n 0 := by
  obtain ⟨_, g2, g3, g4⟩ := scan_spec (p := fun j => X j == 32) (n := n) (i := 0) (Nat.zero_le _)
  generalize scan (fun j => X j == 32) n 0 = i at *
  obtain ⟨_, k2, k3, k4⟩ := scan_spec (p := fun j => X j == 9) (n := i) (i := 0) (Nat.zero_le _)
  generalize scan (fun j => X j == 9) i 0 = k at *
  by_cases hk : k < i
  · rw [if_pos hk]
    exact scan_uniq (Nat.zero_le _) (by omega) (fun j _ hj => by simp [bl, blank, g3 j (Nat.zero_le _) (by omega), k3 j (Nat.zero_le _) hj]) (fun _ => by simp [bl, blank, k4 hk])
  · rw [if_neg hk]
    exact scan_uniq (Nat.zero_le _) (by omega) (fun j _ hj => by simp [bl, blank, g3 j (Nat.zero_le _) hj, k3 j (Nat.zero_le _) (by omega)]) (fun _ => by simp [bl, blank, g4 h])
theorem either_none {X : Nat → Int} {n : Nat} (h : ¬ scan (fun j => X j == 32) n 0 < n) : scan (bl X) n 0 = scan (fun j => X j == 9) n 0 := by
  obtain ⟨_, g2, g3, g4⟩ := scan_spec (p := fun j => X j == 32) (n := n) (i := 0) (Nat.zero_le _)
  obtain ⟨_, k2, k3, k4⟩ := scan_spec (p := fun j => X j == 9) (n := n) (i := 0) (Nat.zero_le _)
  generalize scan (fun j => X j == 32) n 0 = i at *
  generalize scan (fun j => X j == 9) n 0 = k at *
  exact scan_uniq (Nat.zero_le _) k2 (fun j _ hj => by simp [bl, blank, g3 j (Nat.zero_le _) (by omega), k3 j (Nat.zero_le _) hj]) (fun hk => by simp [bl, blank, k4 hk])

theorem either_nil (w : World) :
    Calls Tryd.prog 15 #[.slice none 0 0, .int .u8 32, .int .u8 9] w fun e w' => e = .returned (.int .i64 (-1)) ∧ w' = w := by
  go_enter Tryd.func15, Tryd.ntmps15
  go_wp2_with (go_at_call 20; refine (Tryd.bytes_IndexByte_nil _ _).mono ?_; rintro e w' ⟨rfl, rfl⟩)
  go_ret
  exact ⟨rfl, rfl⟩

set_option maxHeartbeats 400000 in
theorem either_any (b o n c : Nat) (X : Nat → Int) (hX : Byt X) (w : World) (hc : Cel w b o n X) (hnc : n ≤ c) :
    Calls Tryd.prog 15 #[.slice (some ⟨b, o, none⟩) n c, .int .u8 32, .int .u8 9] w fun e w' => e = .returned (.int .i64 (ixV n (scan (bl X) n 0))) ∧ w' = w := by
  have H1 : ∀ cc, Hid (Calls Tryd.prog 20 #[.slice (some ⟨b, o, none⟩) n cc, .int .u8 32] w fun e w' => e = .returned (.int .i64 (ixV n (scan (fun j => X j == 32) n 0))) ∧ w' = w) := fun cc => index_any b o n cc X hX 32 (by decide) w hc
  have H2 : ∀ cc, Hid (Calls Tryd.prog 20 #[.slice (some ⟨b, o, none⟩) n cc, .int .u8 9] w fun e w' => e = .returned (.int .i64 (ixV n (scan (fun j => X j == 9) n 0))) ∧ w' = w) := fun cc => index_any b o n cc X hX 9 (by decide) w hc
  by_cases h : scan (fun j => X j == 32) n 0 < n
  · have hv : ixV n (scan (fun j => X j == 32) n 0) = ((scan (fun j => X j == 32) n 0 : Nat) : Int) := by rw [ixV, if_pos h]
    rw [either_some h]
    rw [hv] at H1
    clear hv H2
    generalize scan (fun j => X j == 32) n 0 = i at *
    have H3 : ∀ cc, Hid (Calls Tryd.prog 20 #[.slice (some ⟨b, o, none⟩) i cc, .int .u8 9] w fun e w' => e = .returned (.int .i64 (ixV i (scan (fun j => X j == 9) i 0))) ∧ w' = w) := fun cc => index_any b o i cc X hX 9 (by decide) w (fun k hk => hc k (by omega))
    clear hc
    generalize scan (fun j => X j == 9) i 0 = k at *
    by_cases hk : k < i
    · rw [if_pos hk, show ixV n k = (k : Int) by rw [ixV, if_pos (by omega)]]
      rw [show ixV i k = (k : Int) by rw [ixV, if_pos hk]] at H3
      go_enter Tryd.func15, Tryd.ntmps15
      go_wp2_with fail
      refine (H1 _).out.mono ?_
      rintro e w' ⟨rfl, rfl⟩
      go_wp2_with fail
      refine (H3 _).out.mono ?_
      rintro e w' ⟨rfl, rfl⟩
      go_wp2
      go_ret
      exact ⟨rfl, rfl⟩
    · rw [if_neg hk, show ixV n i = (i : Int) by rw [ixV, if_pos h]]
      rw [show ixV i k = -1 by rw [ixV, if_neg hk]] at H3
      go_enter Tryd.func15, Tryd.ntmps15
      go_wp2_with fail
      refine (H1 _).out.mono ?_
      rintro e w' ⟨rfl, rfl⟩
      go_wp2_with fail
      refine (H3 _).out.mono ?_
      rintro e w' ⟨rfl, rfl⟩
      go_wp2
      go_ret
      exact ⟨rfl, rfl⟩
  · have hv : ixV n (scan (fun j => X j == 32) n 0) = -1 := by rw [ixV, if_neg h]
    rw [either_none h]
    rw [hv] at H1
    clear hv hc
    generalize ixV n (scan (fun j => X j == 9) n 0) = r at *
    go_enter Tryd.func15, Tryd.ntmps15
    go_wp2_with fail
    refine (H1 _).out.mono ?_
    rintro e w' ⟨rfl, rfl⟩
    go_wp2_with fail
    refine (H2 _).out.mono ?_
    rintro e w' ⟨rfl, rfl⟩
    go_wp2
    go_ret
    exact ⟨rfl, rfl⟩

/-- What is left of a slice behind its first j elements; nil where nothing is left. -/
def cutV (b o n c j : Nat) : Value := if j = n then .slice none 0 0 else .slice (some ⟨b, o + j, none⟩) (n - j) (c - j)

theorem trim_plain {X : Nat → Int} (hX : Byt X) (n : Nat) : n - (Lib.trimLeftS (Lib.bytesOf (lst X n)) [32, 9]).length = scan (nb X) n 0 := by
  obtain ⟨_, g2, g3, g4⟩ := scan_spec (p := nb X) (n := n) (i := 0) (Nat.zero_le _)
  have hl : (Lib.bytesOf (lst X n)).length = n := by simp [Lib.bytesOf, lst]
  have hcont : ∀ i, ([32, 9] : List UInt8).contains (UInt8.ofNat (X i).toNat) = blank (X i) := fun i => by
    have e1 : (UInt8.ofNat (X i).toNat == 32) = (X i == 32) := by
      rw [Bool.eq_iff_iff, beq_iff_eq, beq_iff_eq]
      exact ⟨fun h => u8_inj (hX i) (by decide) h, fun h => by rw [h]; rfl⟩
    have e2 : (UInt8.ofNat (X i).toNat == 9) = (X i == 9) := by
      rw [Bool.eq_iff_iff, beq_iff_eq, beq_iff_eq]
      exact ⟨fun h => u8_inj (hX i) (by decide) h, fun h => by rw [h]; rfl⟩
    simp only [List.contains_cons, List.contains_nil, Bool.or_false, blank, e1, e2]
  rw [Lib.trimLeftS_drop _ [32, 9] (scan (nb X) n 0) (by rw [hl]; exact g2) (fun j x hj hx => by
    rw [bytes_get, if_pos (by omega)] at hx
    simp only [Option.some.injEq] at hx
    rw [← hx, hcont]
    have := g3 j (Nat.zero_le _) hj
    simpa [nb] using this) (fun x hx => by
    rw [bytes_get] at hx
    by_cases hs : scan (nb X) n 0 < n
    · rw [if_pos hs] at hx
      simp only [Option.some.injEq] at hx
      rw [← hx, hcont]
      have := g4 hs
      simpa [nb] using this
    · rw [if_neg hs] at hx; cases hx), List.length_drop, hl]
  omega

theorem trim_any (b o n c : Nat) (X : Nat → Int) (hX : Byt X) (w : World) (hc : Cel w b o n X) (hnc : n ≤ c) (hbig : c ≤ 140737488355328) :
    Calls Tryd.prog 14 #[.slice (some ⟨b, o, none⟩) n c, .string ⟨#[32, 9]⟩] w fun e w' => e = .returned (cutV b o n c (scan (nb X) n 0)) ∧ Below w.heap.size w w' := by
  have h := Any.bytes_TrimLeft_laid Tryd.laysT (by kernel_rfl) (some ⟨b, o, none⟩) n c (lst X n) ⟨#[32, 9]⟩ w (lst_len X n) hnc (by omega) (fun _ => ⟨b, o, rfl, fun i hi => by rw [lst_getD X hi]; exact hc i hi⟩)
    (fun x hx => by
      simp only [lst, List.mem_map] at hx
      obtain ⟨i, _, rfl⟩ := hx
      exact hX i) (by decide) (fun j b hb => by
      have hm := List.mem_of_getElem? hb
      have : b = 32 ∨ b = 9 := by simpa using hm
      rcases this with rfl | rfl <;> decide)
  rw [show (⟨#[32, 9]⟩ : ByteArray).data.toList = [32, 9] from rfl, trim_plain hX n] at h
  have hv : Lib.leftV (some ⟨b, o, none⟩) n c (scan (nb X) n 0) = cutV b o n c (scan (nb X) n 0) := by
    have g2 := (scan_spec (p := nb X) (n := n) (i := 0) (Nat.zero_le _)).2.1
    unfold Lib.leftV cutV
    by_cases hs : scan (nb X) n 0 = n
    · rw [if_pos hs, if_pos hs]
    · rw [if_neg hs, if_neg hs]
      unfold Lib.fromV
      rw [if_neg (by omega), Option.map_some, Go.WideShapes.add_plain]
  rw [hv] at h
  exact h
theorem trim_none (p : Option Addr) (c : Nat) (w : World) : Calls Tryd.prog 14 #[.slice p 0 c, .string ⟨#[32, 9]⟩] w fun e w' => e = .returned (.slice none 0 0) ∧ w' = w :=
  Any.bytes_TrimLeft_none Tryd.laysT p c ⟨#[32, 9]⟩ w
end Go.Proofs.Qxb6601496aDoor

/- Seat b6601748aD: (*headerParser).value. -/
import Derived.Test.Qxb6601748aDoorB
namespace Go.Proofs.Qxb6601748aDoor
open Go.RowKit Go.PlainAid

theorem lt_of_heap {w : World} {g : Nat} {o : Obj} (h : w.heap[g]? = some o) : g < w.heap.size := by
  rcases Nat.lt_or_ge g w.heap.size with h' | h'
  · exact h'
  · simp [Array.getElem?_eq_none h'] at h
theorem own_same {w w' : World} {B n : Nat} {e : TypeId} {sz : Nat} {v : Value} {xs : List Value} (h : w.ownsRow B e sz v n xs) (hs : ∀ k, B ≤ k → k < w.heap.size → w'.heap[k]? = w.heap[k]?) : w'.ownsRow B e sz v n xs := by
  rcases h.2 with ⟨rfl, h0⟩ | ⟨g, cap, cur, rfl, hb', hg, hnc, hcm, hcs, htk⟩
  · exact ⟨h.1, Or.inl ⟨rfl, h0⟩⟩
  · exact ⟨h.1, Or.inr ⟨_, _, cur, rfl, hb', by rw [hs _ hb' (lt_of_heap hg)]; exact hg, hnc, hcm, hcs, htk⟩⟩
theorem builderAt_same {w w' : World} {B b : Nat} {p : Value} {bs : List Value} (h : Lib.BuilderAt 57 5 B b p bs w) (hs : ∀ k, B ≤ k → k < w.heap.size → w'.heap[k]? = w.heap[k]?) : Lib.BuilderAt 57 5 B b p bs w' := by
  obtain ⟨h1, v, h2, h3, h4⟩ := h
  exact ⟨h1, v, by rw [hs _ h1 (lt_of_heap h2)]; exact h2, own_same h3 hs, h4⟩
theorem builder_same {w w' : World} {B b : Nat} {bs : List Value} (h : Lib.IsBuilder 57 5 B b bs w) (hs : ∀ k, B ≤ k → k < w.heap.size → w'.heap[k]? = w.heap[k]?) : Lib.IsBuilder 57 5 B b bs w' := by
  rcases h with h | h
  · exact Or.inl (builderAt_same h hs)
  · exact Or.inr (builderAt_same h hs)
theorem same_set {w : World} {B pb o : Nat} {u : Value} (h : pb < B) : ∀ k, B ≤ k → k < w.heap.size → (w.setCell ⟨pb, o, none⟩ u).heap[k]? = w.heap[k]? := fun k h1 _ => Below.heap_setCell w ⟨pb, o, none⟩ u k (by simp; omega)
theorem Only.below {pb B : Nat} {a w w' : World} (h : Only pb a w) (hb : Below B w w') (h1 : a.heap.size ≤ B) (h2 : pb ≤ B) : Only pb a w' :=
  ⟨h.1.trans (hb.mono h2), fun k hk hk2 => (hb.block k (by omega)).trans (h.2 k hk hk2)⟩
theorem Only.drew {pb : Nat} {a w : World} (h : Only pb a w) : Only pb a w.drew := ⟨h.1.drew, h.2⟩
theorem PS.belowB {w w' : World} {pb B : Nat} {s : ByteArray} {i : Nat} (h : PS w pb s i) (hb : Below B w w') (hp : pb < B) : PS w' pb s i := (hb.block pb hp).trans h

/-- From place i on the text reads l. -/
def At (s : ByteArray) (i : Nat) (l : List UInt8) : Prop := i + l.length ≤ s.size ∧ ∀ (k : Nat) (c : UInt8), l[k]? = some c → bt s (i + k) = (c.toNat : Int)
theorem At.left {s : ByteArray} {i : Nat} {a b : List UInt8} (h : At s i (a ++ b)) : At s i a := by
  refine ⟨by have := h.1; simp at this; omega, fun k c hk => h.2 k c ?_⟩
  have hl : k < a.length := (List.getElem?_eq_some_iff.1 hk).1
  rw [List.getElem?_append_left hl]; exact hk
theorem At.right {s : ByteArray} {i : Nat} {a b : List UInt8} (h : At s i (a ++ b)) : At s (i + a.length) b := by
  refine ⟨by have := h.1; simp at this; omega, fun k c hk => ?_⟩
  rw [Nat.add_assoc]
  exact h.2 (a.length + k) c (by rw [List.getElem?_append_right (by omega)]; simpa using hk)
theorem At.head {s : ByteArray} {i : Nat} {c : UInt8} {l : List UInt8} (h : At s i (c :: l)) : i < s.size ∧ bt s i = (c.toNat : Int) :=
  ⟨by have := h.1; simp at this; omega, h.2 0 c rfl⟩
theorem At.tail {s : ByteArray} {i : Nat} {c : UInt8} {l : List UInt8} (h : At s i (c :: l)) : At s (i + 1) l := At.right (a := [c]) h

/-- The bytes of a quoted string: a backslash before each quote and backslash. -/
def escs (l : List UInt8) : List UInt8 := l.flatMap fun c => if c == 34 || c == 92 then [92, c] else [c]
theorem escs_cons (c : UInt8) (l : List UInt8) : escs (c :: l) = (if c == 34 || c == 92 then [92, c] else [c]) ++ escs l := rfl
theorem escs_ge (l : List UInt8) : l.length ≤ (escs l).length := by
  induction l with
  | nil => simp
  | cons c l ih =>
    rw [escs_cons, List.length_append, List.length_cons]
    split <;> simp only [List.length_cons, List.length_nil] <;> omega
theorem is34 (c : UInt8) : ((c.toNat : Int) == 34) = (c == 34) := by
  rw [Bool.eq_iff_iff, beq_iff_eq, beq_iff_eq]
  exact ⟨fun h => UInt8.toNat_inj.1 (show _ = 34 by omega), fun h => by rw [h]; rfl⟩
theorem is92 (c : UInt8) : ((c.toNat : Int) == 92) = (c == 92) := by
  rw [Bool.eq_iff_iff, beq_iff_eq, beq_iff_eq]
  exact ⟨fun h => UInt8.toNat_inj.1 (show _ = 92 by omega), fun h => by rw [h]; rfl⟩

set_option maxHeartbeats 400000 in
theorem value_bare (pb : Nat) (s : ByteArray) (i j : Nat) (w : World) (hP : PS w pb s i) (hs : s.size ≤ 16777216) (hij : i ≤ j) (hj : j ≤ s.size)
    (h0 : i < s.size → bt s i ≠ 34) (h1 : ∀ k, i ≤ k → k < j → tc (bt s k) = true) (h2 : j < s.size → tc (bt s j) = false) :
    Calls Tryd.prog 24 #[.pointer (some ⟨pb, 0, none⟩)] w fun e w' => e = .returned (.string (s.extract i j)) ∧ PS w' pb s j ∧ Only pb w w' := by
  have HP : Hid (PS w pb s i) := hP
  have H0 : Hid (i < s.size → bt s i ≠ 34) := h0
  have H1 : Hid (∀ k, i ≤ k → k < j → tc (bt s k) = true) := h1
  have H2 : Hid (j < s.size → tc (bt s j) = false) := h2
  clear hP h0 h1 h2
  go_enter Tryd.func24, Tryd.ntmps24
  go_wp2_with fail
  refine (next_no pb s i 34 w HP.out H0.out).mono ?_
  rintro e w1 ⟨rfl, hp1, ho1⟩
  have HP1 : Hid (PS w1 pb s i) := hp1
  clear hp1
  go_wp2_with fail
  refine (token_any pb s i j w1 HP1.out hs hij hj H1.out H2.out).mono ?_
  rintro e w2 ⟨rfl, hp2, ho2⟩
  have HP2 : Hid (PS w2 pb s j) := hp2
  clear hp2
  go_wp2
  go_ret
  exact ⟨rfl, HP2.out, ho1.trans ho2⟩

set_option maxHeartbeats 1600000 in
theorem value_quoted (pb : Nat) (s : ByteArray) (i : Nat) (l : List UInt8) (w : World) (hP : PS w pb s i) (hs : s.size ≤ 16777216) (hat : At s i (34 :: (escs l ++ [34]))) :
    Calls Tryd.prog 24 #[.pointer (some ⟨pb, 0, none⟩)] w fun e w' => e = .returned (.string ⟨l.toArray⟩) ∧ PS w' pb s (i + (escs l).length + 2) ∧ Only pb w w' := by
  have hh := hat.head
  have HT : Hid (At s (i + 1) (escs l ++ [34])) := hat.tail
  have hsz : i + (escs l).length + 2 ≤ s.size := by
    have h1 := hat.1
    simp only [List.length_cons, List.length_append, List.length_nil] at h1
    omega
  have HP : Hid (PS w pb s i) := hP
  have hpl := hP.lt
  have hg := get_bt s
  clear hP hat
  go_enter Tryd.func24, Tryd.ntmps24
  go_wp2_with fail
  refine (next_yes pb s i 34 w HP.out hs hh.1 (by rw [hh.2]; rfl)).mono ?_
  rintro e w1 ⟨rfl, hp1, ho1⟩
  have HP1 : Hid (PS w1 pb s (i + 1)) := hp1
  have hsz1 := ho1.1.size
  clear hp1 HP hh
  go_wp2
  have hfresh := Lib.fresh_isBuilder 57 5 w1
  have hbw : Only pb w (w1.alloc (.cells #[.pointer none, .slice none 0 0] 57)) := ho1.below ((Below.refl _ _).alloc (Nat.le_refl _) _) hsz1 (by omega)
  have hp1' : PS (w1.alloc (.cells #[.pointer none, .slice none 0 0] 57)) pb s (i + 1) := HP1.out.belowB ((Below.refl w1.heap.size _).alloc (Nat.le_refl _) _) (by omega)
  have hszA : w1.heap.size ≤ (w1.alloc (.cells #[.pointer none, .slice none 0 0] 57)).heap.size := ((Below.refl w1.heap.size _).alloc (Nat.le_refl _) _).size
  generalize hB : w1.heap.size = B at *
  go_loopw [] (fun wr => ∃ (p : Nat) (l1 l2 : List UInt8), Hid (l = l1 ++ l2 ∧ At s p (escs l2 ++ [34]) ∧ p + (escs l2).length = i + 1 + (escs l).length ∧ Lib.IsBuilder 57 5 B B (Lib.byteCells l1) wr ∧ PS wr pb s p) ∧ Only pb w wr ∧ B ≤ wr.heap.size) (fun wr => s.size - posOf wr pb)
  case atStart => exact ⟨i + 1, [], l, ⟨rfl, HT.out, rfl, hfresh, hp1'⟩, hbw, hszA⟩
  case round =>
    clear hfresh hbw HT hp1' hszA HP1 ho1
    obtain ⟨p, l1, l2, HR, ho, hBs⟩ := hrel
    obtain ⟨hl, hat, hp, hbd, hps⟩ := HR.out
    have hpB : pb < B := by omega
    have hl1 : l1.length ≤ 16777216 := by
      have h1 := escs_ge l
      have h2 : l.length = l1.length + l2.length := by rw [hl]; simp
      omega
    have c0 := two_cell0 hps
    have c1 := two_cell1 hps
    have f1 := Lib.frozen_of_heap hps 1
    have HB : Hid (Lib.IsBuilder 57 5 B B (Lib.byteCells l1) wr) := hbd
    have HPS : Hid (PS wr pb s p) := hps
    have HP : Hid (p + (escs l2).length = i + 1 + (escs l).length) := hp
    have HL : Hid (l = l1 ++ l2) := hl
    clear hp hl HR hbd hps
    have hps1 : p < s.size := by
      cases l2 with
      | nil => exact hat.head.1
      | cons c l2 =>
        have := hat.1
        rw [escs_cons] at this
        split at this <;> simp at this <;> omega
    have g1 : decide ((p : Int) < (s.size : Int)) = true := by simp; omega
    have hpi : (p : Int) < (s.size : Int) := by omega
    cases l2 with
    | nil =>
      have hp2 := hat.head.2
      have hp3 : (bt s p == 34) = true := by rw [hp2]; rfl
      clear hp2 hat
      go_wp2
      go_quiet (fail)
      revert nq
      intro q1
      go_wp2
      go_quiet (fail)
      go_wp2_with fail
      generalize q1 + nq = q
      have hpS : PS ((wr.drewN q).setCell ⟨pb, 1, none⟩ (.int .i64 ((p : Int) + 1))) pb s (p + 1) := HPS.out.step p
      have hbS : Lib.IsBuilder 57 5 B B (Lib.byteCells l1) ((wr.drewN q).setCell ⟨pb, 1, none⟩ (.int .i64 ((p : Int) + 1))) := builder_same (w := wr.drewN q) HB.out (same_set hpB)
      have hoS : Only pb w ((wr.drewN q).setCell ⟨pb, 1, none⟩ (.int .i64 ((p : Int) + 1))) := (ho.drewN q).setCell 1 _
      have hsS : B ≤ ((wr.drewN q).setCell ⟨pb, 1, none⟩ (.int .i64 ((p : Int) + 1))).heap.size := by rw [World.size_setCell]; exact hBs
      generalize ((wr.drewN q).setCell ⟨pb, 1, none⟩ (.int .i64 ((p : Int) + 1))) = W at *
      have HPW : Hid (PS W pb s (p + 1)) := hpS
      have HBW : Hid (Lib.IsBuilder 57 5 B B (Lib.byteCells l1) W) := hbS
      clear c0 c1 f1 hbS
      have c0 := two_cell0 hpS
      have c1 := two_cell1 hpS
      have f1 := Lib.frozen_of_heap hpS 1
      clear hpS
      refine (Tryd.Builder_String_any B B l1 W HBW.out hsS).mono ?_
      rintro e w2 ⟨rfl, hb2⟩
      go_wp2
      go_ret
      have e1 := HL.out
      have e2 := HP.out
      rw [List.append_nil] at e1
      subst e1
      have e3 : p + 1 = i + (escs l).length + 2 := by simp [escs] at e2 ⊢; omega
      rw [← e3]
      exact ⟨rfl, HPW.out.belowB hb2 hpB, hoS.below hb2 (by omega) (by omega)⟩
    | cons c l2 =>
      by_cases hq : (c == 34 || c == 92) = true
      · have hat2 : At s p (92 :: c :: (escs l2 ++ [34])) := by
          rw [escs_cons, if_pos hq] at hat; exact hat
        obtain ⟨hp1, hp2⟩ := hat2.head
        obtain ⟨hp3, hp4⟩ := hat2.tail.head
        have hp5 : (bt s p == 34) = false := by rw [hp2]; rfl
        have hp6 : (bt s p == 92) = true := by rw [hp2]; rfl
        have HAT : Hid (At s (p + 1 + 1) (escs l2 ++ [34])) := hat2.tail.tail
        have HP2 : Hid (bt s (p + 1) = c.toNat) := hp4
        have g2 : decide ((p : Int) + 1 < (s.size : Int)) = true := by simp; omega
        have hpi2 : (p : Int) + 1 < (s.size : Int) := by omega
        clear hp2 hp4 hat hat2
        go_wp2
        go_quiet (fail)
        revert nq
        intro q1
        go_wp2
        go_quiet (fail)
        go_wp2
        generalize q1 + nq = q
        have hpS : PS ((wr.drewN q).setCell ⟨pb, 1, none⟩ (.int .i64 ((p : Int) + 1))) pb s (p + 1) := HPS.out.step p
        have hbS : Lib.IsBuilder 57 5 B B (Lib.byteCells l1) ((wr.drewN q).setCell ⟨pb, 1, none⟩ (.int .i64 ((p : Int) + 1))) := builder_same (w := wr.drewN q) HB.out (same_set hpB)
        have hoS : Only pb w ((wr.drewN q).setCell ⟨pb, 1, none⟩ (.int .i64 ((p : Int) + 1))) := (ho.drewN q).setCell 1 _
        have hsS : B ≤ ((wr.drewN q).setCell ⟨pb, 1, none⟩ (.int .i64 ((p : Int) + 1))).heap.size := by rw [World.size_setCell]; exact hBs
        generalize ((wr.drewN q).setCell ⟨pb, 1, none⟩ (.int .i64 ((p : Int) + 1))) = W at *
        have HPW : Hid (PS W pb s (p + 1)) := hpS
        have HBW : Hid (Lib.IsBuilder 57 5 B B (Lib.byteCells l1) W) := hbS
        clear c0 c1 f1 hbS
        have c0 := two_cell0 hpS
        have c1 := two_cell1 hpS
        have f1 := Lib.frozen_of_heap hpS 1
        clear hpS
        go_quiet (fail)
        go_wp2
        go_region_with (go_at_call 28; refine Calls.mono (Tryd.Builder_WriteByte B B (Lib.byteCells l1) _ _ (by exact HBW.out) (by simp [Lib.byteCells]; omega) (by exact hsS)) ?_; rintro e w2 ⟨rfl, hbd2, hb2⟩; have hps2 : PS w2 pb s (p + 1) := (hb2.block pb hpB).trans HPW.out; have d1 := two_cell1 hps2; have f2 := Lib.frozen_of_heap hps2 1; have HPS2 : Hid (PS w2 pb s (p + 1)) := hps2; have HBD2 : Hid (Lib.BuilderAt 57 5 B B _ _ w2) := hbd2; have hoS2 : Only pb w w2 := (by first | exact hoS.below hb2 (by omega) (by omega) | exact hoS.drew.below hb2 (by omega) (by omega) | exact (hoS.drewN _).below hb2 (by omega) (by omega) | exact (hoS.drewN _).drew.below hb2 (by omega) (by omega)); have hsz2 := hb2.size; clear hb2 hps2 hbd2)
        all_goals
          go_wp2
          go_roundw
          case rel => exact ⟨p + 1 + 1, l1 ++ [c], l2, ⟨by rw [HL.out]; simp, HAT.out, by have := HP.out; rw [escs_cons, if_pos hq] at this; simp at this; omega, builder_same (w := w2) (Or.inr (by have := HBD2.out; rw [HP2.out] at this; simpa [Lib.byteCells] using this)) (same_set hpB), HPS2.out.step (p + 1)⟩, hoS2.setCell 1 _, by rw [World.size_setCell]; exact Nat.le_trans hsS hsz2⟩
          case measure =>
            have e1 := PS.pos (HPS2.out.step (p + 1))
            rw [show ((p + 1 : Nat) : Int) + 1 = (p : Int) + 1 + 1 by omega] at e1
            rw [e1, PS.pos HPS.out]
            omega
      · have hat2 : At s p (c :: (escs l2 ++ [34])) := by
          rw [escs_cons, if_neg hq] at hat; exact hat
        obtain ⟨hp1, hp2⟩ := hat2.head
        have hq' : ((c.toNat : Int) == 34) = false ∧ ((c.toNat : Int) == 92) = false := by
          rw [is34, is92]
          cases h1 : (c == 34) <;> cases h2 : (c == 92) <;> simp_all
        have hp5 : (bt s p == 34) = false := by rw [hp2]; exact hq'.1
        have hp6 : (bt s p == 92) = false := by rw [hp2]; exact hq'.2
        have HAT : Hid (At s (p + 1) (escs l2 ++ [34])) := hat2.tail
        have HP2 : Hid (bt s p = c.toNat) := hp2
        clear hp2 hat hat2 hq'
        go_wp2
        go_quiet (fail)
        revert nq
        intro q1
        go_wp2
        go_quiet (fail)
        go_wp2
        generalize q1 + nq = q
        have hpS : PS ((wr.drewN q).setCell ⟨pb, 1, none⟩ (.int .i64 ((p : Int) + 1))) pb s (p + 1) := HPS.out.step p
        have hbS : Lib.IsBuilder 57 5 B B (Lib.byteCells l1) ((wr.drewN q).setCell ⟨pb, 1, none⟩ (.int .i64 ((p : Int) + 1))) := builder_same (w := wr.drewN q) HB.out (same_set hpB)
        have hoS : Only pb w ((wr.drewN q).setCell ⟨pb, 1, none⟩ (.int .i64 ((p : Int) + 1))) := (ho.drewN q).setCell 1 _
        have hsS : B ≤ ((wr.drewN q).setCell ⟨pb, 1, none⟩ (.int .i64 ((p : Int) + 1))).heap.size := by rw [World.size_setCell]; exact hBs
        generalize ((wr.drewN q).setCell ⟨pb, 1, none⟩ (.int .i64 ((p : Int) + 1))) = W at *
        have HPW : Hid (PS W pb s (p + 1)) := hpS
        have HBW : Hid (Lib.IsBuilder 57 5 B B (Lib.byteCells l1) W) := hbS
        clear c0 c1 f1 hbS
        have c0 := two_cell0 hpS
        have c1 := two_cell1 hpS
        have f1 := Lib.frozen_of_heap hpS 1
        clear hpS
        go_quiet (fail)
        go_wp2_with fail
        refine Calls.mono (Tryd.Builder_WriteByte B B (Lib.byteCells l1) _ _ (by exact HBW.out) (by simp [Lib.byteCells]; omega) (by exact hsS)) ?_
        rintro e w2 ⟨rfl, hbd2, hb2⟩
        have hps2 : PS w2 pb s (p + 1) := (hb2.block pb hpB).trans HPW.out
        have HPS2 : Hid (PS w2 pb s (p + 1)) := hps2
        have HBD2 : Hid (Lib.BuilderAt 57 5 B B _ _ w2) := hbd2
        have hoS2 : Only pb w w2 := (by first | exact hoS.below hb2 (by omega) (by omega) | exact hoS.drew.below hb2 (by omega) (by omega) | exact (hoS.drewN _).below hb2 (by omega) (by omega) | exact (hoS.drewN _).drew.below hb2 (by omega) (by omega))
        have hsz2 := hb2.size
        clear hb2 hps2 hbd2
        go_wp2
        go_roundw
        case rel => exact ⟨p + 1, l1 ++ [c], l2, ⟨by rw [HL.out]; simp, HAT.out, by have := HP.out; rw [escs_cons, if_neg hq] at this; simp at this; omega, Or.inr (by have := HBD2.out; rw [HP2.out] at this; simpa [Lib.byteCells] using this), HPS2.out⟩, hoS2, Nat.le_trans hsS hsz2⟩
        case measure =>
          rw [PS.pos HPS2.out, PS.pos HPS.out]
          omega
end Go.Proofs.Qxb6601748aDoor

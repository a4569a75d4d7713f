/- Seat b6601748aD: parseChallenges. -/
import Derived.Test.Qxb6601748aDoorN
import Derived.Deep.LoopGhost
import Derived.Deep.CutBlock
namespace Go.Proofs.Qxb6601748aDoor
open Go.RowKit Go.PlainAid Go.Maps

/-- The headers' slice. -/
def Hdr (w : World) (v : Value) (T : List ByteArray) : Prop :=
  ∃ ao cap, v = .slice ao T.length cap ∧ (0 < T.length → ∃ b, ao = some ⟨b, 0, none⟩ ∧ b < w.heap.size ∧ ∀ j, j < T.length → w.cell? ⟨b, j, none⟩ = some (.string (T.getD j .empty)))
/-- A challenge as the law lets it by. -/
structure ChOk (c : Ch) : Prop where
  sch : Tok c.sch
  len : c.sch.size ≤ 65536
  num : c.ps.length ≤ 65536
  prm : ∀ q ∈ c.ps, Tok q.1 ∧ q.1.size ≤ 65536 ∧ q.2.size ≤ 65536
theorem ChOk.toks {c : Ch} (h : ChOk c) : ∀ j, j < c.ps.length → Tok (pn c.ps j) := fun j hj => by
  have := (h.prm c.ps[j] (List.getElem_mem hj)).1
  rw [getD_ps c.ps hj] at this
  exact this

theorem Tok.ne {s : ByteArray} (h : Tok s) : s.toList.isEmpty = false := by
  rw [Lib.toList_data]
  obtain ⟨c, t, e, _⟩ := h.hd []
  rw [List.append_nil] at e
  rw [e]; rfl
theorem tolower_tok (s : ByteArray) (w : World) (h : Tok s) (hs : s.size ≤ 65536) : Calls Tryd.prog 21 #[.string s] w fun e w' => e = .returned (.string (low s)) ∧ Below w.heap.size w w' :=
  Tryd.strings_ToLower_ascii s w (by omega) (fun _ b hb => (tok_facts (h.all b (List.mem_of_getElem? hb))).2.2.2.2)
theorem token_str (pb : Nat) (s : ByteArray) (i : Nat) (nm : ByteArray) (b : List UInt8) (w : World) (hP : PS w pb s i) (hs : s.size ≤ 16777216) (hS : Suf s i (nm.data.toList ++ b))
    (h1 : Tok nm) (h2 : NoTok b) :
    Calls Tryd.prog 20 #[.pointer (some ⟨pb, 0, none⟩)] w fun e w' => e = .returned (.string nm) ∧ PS w' pb s (i + nm.data.toList.length) ∧ Only pb w w' :=
  token_suf pb s i nm.data.toList b w hP hs hS h1.all h2
theorem token_none (pb : Nat) (s : ByteArray) (i : Nat) (w : World) (hP : PS w pb s i) (hs : s.size ≤ 16777216) (hS : Suf s i []) :
    Calls Tryd.prog 20 #[.pointer (some ⟨pb, 0, none⟩)] w fun e w' => e = .returned (.string ⟨#[]⟩) ∧ PS w' pb s i ∧ Only pb w w' :=
  token_suf pb s i [] [] w hP hs hS (by simp) (by simp)

theorem flat_take (gs : List (List Ch)) (i : Nat) (h : i < gs.length) : (gs.take (i + 1)).flatten = (gs.take i).flatten ++ gs[i] := by
  rw [List.take_succ_eq_append_getElem h, List.flatten_append]
  simp
theorem flat_le (gs : List (List Ch)) (i : Nat) : (gs.take i).flatten.length ≤ gs.flatten.length := by
  conv => rhs; rw [← List.take_append_drop i gs]
  rw [List.flatten_append, List.length_append]
  omega

theorem lead_b3 (loose f : Bool) : ∀ c ∈ (if f then aftT loose else sepT loose), inset blanks3 (c.toNat : Int) = true := by
  cases f
  · exact sep_b3 loose
  · exact aft_b3 loose
theorem pre_no (loose : Bool) (l : List UInt8) : NoTok (preT loose ++ 61 :: l) := by
  intro c hc
  cases loose <;> (simp [preT] at hc; subst hc; decide +kernel)
theorem b2_61 (l : List UInt8) : ∀ c, (61 :: l : List UInt8).head? = some c → inset blanks2 (c.toNat : Int) = false := by
  intro c hc
  simp at hc; subst hc; decide +kernel
theorem cell_two_new (w : World) (x y : Value) (t : TypeId) : ∀ (j : Nat) (u : Value), [x, y][j]? = some u → (w.alloc (.cells #[x, y] t)).cell? ((⟨w.heap.size, 0, none⟩ : Addr).add j) = some u := by
  intro j u h
  rw [Go.WideShapes.add_plain, Lib.cell_of_heap (MapKept.heap_alloc w (.cells #[x, y] t)).1]
  match j, h with
  | 0, h => simpa using h
  | 1, h => simpa using h
theorem two_ok (x : ByteArray) (m : Nat) : ∀ u ∈ [Value.string x, .map (some m)], u.oneCell' = true := by
  intro u hu
  simp only [List.mem_cons, List.not_mem_nil, or_false] at hu
  rcases hu with rfl | rfl <;> rfl
theorem Mid.start {w0 w : World} {B pb : Nat} {s : ByteArray} {p : Nat} {v : Value} {E : List (Ch × Nat)} (sch : ByteArray) (hP : PS w pb s p) (hG : Got w B v E) (hb : Below B w0 w) (hpb : B ≤ pb) :
    Mid w0 ((w.alloc (.map #[] 0)).alloc (.cells #[.string (low sch), .map (some w.heap.size)] 33)) B pb (w.heap.size + 1) w.heap.size s p v E sch [] := by
  have hBw : B ≤ w.heap.size := by have := hP.lt; omega
  have hbl : Below w.heap.size w ((w.alloc (.map #[] 0)).alloc (.cells #[.string (low sch), .map (some w.heap.size)] 33)) := ((Below.refl _ w).alloc (Nat.le_refl _) _).alloc (by simp) _
  have hs : (w.alloc (.map #[] 0)).heap.size = w.heap.size + 1 := by simp
  refine ⟨hP.below hbl, hG.below hbl, ?_, (World.ownsMap_made w Tryd.prog 9 (plainElem Tryd.prog 9)).alloc _, hb.trans (hbl.mono hBw), hpb, hBw, fun e he => ?_⟩
  · rw [← hs]; exact (MapKept.heap_alloc _ _).1
  · have := (hG.2 e he).lt
    omega

/-- Ahead of a challenge (or at the text's end). -/
def Lead (loose bare : Bool) (w : World) (B pb : Nat) (s : ByteArray) (p : Nat) (v : Value) (E : List (Ch × Nat)) (rest all : List Ch) : Prop :=
  E.map (·.1) ++ rest = all ∧ (∀ c ∈ rest, ChOk c) ∧ PS w pb s p ∧ Suf s p (rC loose bare true rest) ∧ Got w B v E

set_option maxHeartbeats 6400000 in
set_option maxRecDepth 100000 in
theorem parse_any (v : Value) (gs : List (List Ch)) (loose bare : Bool) (w : World) (hH : Hdr w v (gs.map fun x => ⟨(rC loose bare true x).toArray⟩)) (hL : gs.length ≤ 9223372036854775807)
    (hlen : ∀ x ∈ gs, (rC loose bare true x).length ≤ 131072) (hok : ∀ c ∈ gs.flatten, ChOk c) (hfl : gs.flatten.length ≤ 65536) :
    Calls Tryd.prog 16 #[v] w fun e w' => ∃ (v' : Value) (E : List (Ch × Nat)), e = .returned v' ∧ Hid (E.map (·.1) = gs.flatten ∧ Got w' w.heap.size v' E) ∧ Below w.heap.size w w' := by
  obtain ⟨i0, hi0, hz0, hz1, hz2⟩ := info_parts Tryd.info33
  obtain ⟨ao, cap, rfl, hc0⟩ := hH
  have HC : Hid (0 < (gs.map fun x => (⟨(rC loose bare true x).toArray⟩ : ByteArray)).length → ∃ b, ao = some ⟨b, 0, none⟩ ∧ b < w.heap.size ∧ ∀ j, j < (gs.map fun x => (⟨(rC loose bare true x).toArray⟩ : ByteArray)).length → w.cell? ⟨b, j, none⟩ = some (.string ((gs.map fun x => (⟨(rC loose bare true x).toArray⟩ : ByteArray)).getD j .empty))) := hc0
  have HLn : Hid (∀ x ∈ gs, (rC loose bare true x).length ≤ 131072) := hlen
  have HOk : Hid (∀ c ∈ gs.flatten, ChOk c) := hok
  clear hc0 hlen hok
  rw [List.length_map] at HC
  have hlm : (gs.map fun x => (⟨(rC loose bare true x).toArray⟩ : ByteArray)).length = gs.length := List.length_map _
  rw [hlm]
  generalize hn : gs.length = n at *
  have HN : Hid (gs.length = n) := hn
  clear hn hlm
  have hmm := @run_makeMap Tryd.prog
  go_enter Tryd.func16, Tryd.ntmps16
  go_wp2
  go_loopg [3, 13] n (fun g cv iv wr => ∃ (i : Nat) (E : List (Ch × Nat)), i ≤ n ∧ i + g = n ∧ iv = .int .i64 i ∧ Hid (E.map (·.1) = (gs.take i).flatten ∧ Got wr w.heap.size cv E) ∧ Below w.heap.size w wr)
  case atStart => exact ⟨0, [], Nat.zero_le _, by omega, rfl, ⟨by simp, Got.nil _ _⟩, Below.refl _ _⟩
  case round =>
    obtain ⟨i, E, hi, hig, rfl, HE, hbel⟩ := hrel
    by_cases hlt : i < n
    · obtain ⟨gO, rfl⟩ : ∃ g, gk = g + 1 := ⟨gk - 1, by omega⟩
      obtain ⟨b, hao, hb, hcell⟩ := HC.out (by omega)
      have hig' : i < gs.length := by rw [HN.out]; exact hlt
      have c1 : wr.cell? ⟨b, i, none⟩ = some (.string ⟨(rC loose bare true gs[i]).toArray⟩) := by
        rw [hbel.cell (p := ⟨b, i, none⟩) hb, hcell i hlt]
        simp [List.getD, hig']
      have HT : Hid (Suf ⟨(rC loose bare true gs[i]).toArray⟩ 0 (rC loose bare true gs[i])) := Suf.whole _
      have hsz0 := HLn.out gs[i] (List.getElem_mem hig')
      have hsz : (⟨(rC loose bare true gs[i]).toArray⟩ : ByteArray).size ≤ 131072 := by simpa [ByteArray.size] using hsz0
      have HTk : Hid ((gs.take (i + 1)).flatten = (gs.take i).flatten ++ gs[i]) := flat_take gs i hig'
      have htl : (gs.take (i + 1)).flatten.length ≤ 65536 := Nat.le_trans (flat_le gs (i + 1)) hfl
      have HTf : Hid (∀ c ∈ gs[i], ChOk c) := fun c hc => HOk.out c (List.mem_flatten.2 ⟨gs[i], List.getElem_mem hig', hc⟩)
      clear hcell hsz0
      subst hao
      generalize htx : (⟨(rC loose bare true gs[i]).toArray⟩ : ByteArray) = s at *
      clear htx
      generalize hgi : gs[i] = gi at *
      clear hgi
      generalize htk : (gs.take (i + 1)).flatten = all at *
      have HAll : Hid ((gs.take (i + 1)).flatten = all) := htk
      clear htk
      go_wp2
      obtain ⟨wA, rfl⟩ : ∃ x, x = wr := ⟨wr, rfl⟩
      have HL0 : Hid (Lead loose bare (wA.alloc (.cells #[.string s, .int .i64 0] 51)) w.heap.size wA.heap.size s 0 u3 E gi all) :=
        ⟨by rw [HTk.out, HE.out.1], HTf.out, (MapKept.heap_alloc wA _).1, HT.out, HE.out.2.below ((Below.refl _ wA).alloc (Nat.le_refl _) _)⟩
      have hbA : Below w.heap.size w (wA.alloc (.cells #[.string s, .int .i64 0] 51)) := hbel.alloc hbel.size _
      have hEl : E.length + gi.length ≤ 65536 := by
        have := congrArg List.length HE.out.1
        have h2 := HTk.out
        rw [h2, List.length_append, ← HE.out.1] at htl
        simpa using htl
      have hpbB : w.heap.size ≤ wA.heap.size := hbel.size
      clear HE HT HTf HTk hbel c1
      generalize wA.heap.size = pb at *
      generalize wA.alloc (.cells #[.string s, .int .i64 0] 51) = wB at *
      clear wA
      go_loopg [3] (gi.length + 1) (fun g cv wr => ∃ (E : List (Ch × Nat)) (rest : List Ch) (p : Nat), rest.length + 1 = g ∧ E.length + rest.length ≤ 65536 ∧ Hid (Lead loose bare wr w.heap.size pb s p cv E rest all) ∧ Below w.heap.size w wr)
      case atStart => exact ⟨E, gi, 0, rfl, hEl, HL0, hbA⟩
      case round =>
        clear HL0 hbA hEl
        obtain ⟨E, rest, p, hg, hEl, HL, hbel⟩ := hrel
        obtain ⟨wC, rfl⟩ : ∃ x, x = wr := ⟨wr, rfl⟩
        obtain ⟨gI, rfl⟩ : ∃ g, gk = g + 1 := ⟨gk - 1, by omega⟩
        obtain ⟨l1, l2, l3, l4, l5⟩ := HL.out
        have c0 := two_cell0 l3
        have c1 := two_cell1 l3
        cases rest with
        | nil =>
          have hps : p = s.size := by have := l4.2; simpa [rC] using this
          have g1 : decide ((p : Int) < (s.size : Int)) = false := by simp; omega
          have HS : Hid (Suf s p []) := show Suf s p [] by simpa [rC] using l4
          have HG : Hid (Got wC w.heap.size _ E) := l5
          have HP : Hid (PS wC pb s p) := l3
          have HA : Hid (E.map (·.1) = all) := show E.map (·.1) = all by simpa using l1
          clear l1 l2 l3 l4 l5 HL
          go_wp2
          go_loopw [] (fun wr => wr = wC) (fun _ => 0)
          case atStart => rfl
          case round =>
            subst hrel
            go_wp2
            go_quiet (fail)
            go_wp2_with fail
            refine (token_none pb s p _ (by exact HP.out.drewN _) (by omega) HS.out).mono ?_
            rintro e w1 ⟨rfl, hp1, ho1⟩
            have ho2 : Only pb wr w1 := ((Only.refl pb wr).drewN _).trans ho1
            clear ho1 hp1
            go_wp2
            go_roundg gO
            case measure => omega
            case rel => exact ⟨i + 1, E, by omega, by omega, by go_num, ⟨by rw [HA.out, HAll.out], HG.out.only HP.out ho2⟩, hbel.trans (ho2.1.mono hpbB)⟩
        | cons c rest =>
          have hck := l2 c (List.mem_cons_self ..)
          have e1 : rC loose bare true (c :: rest) = c.sch.data.toList ++ (rP loose bare true c.ps ++ rC loose bare false rest) := by simp [rC]
          rw [e1] at l4
          have hps : p < s.size := by
            have h1 := l4.2
            have h2 := hck.sch.1
            rw [List.length_append, Array.length_toList, ByteArray.size_data] at h1
            omega
          have htc : tc (bt s p) = true := by
            obtain ⟨d, t, e, hd⟩ := hck.sch.hd (rP loose bare true c.ps ++ rC loose bare false rest)
            refine l4.hd (Q := fun x => tc x = true) (fun d' hd' => ?_) hps
            rw [e] at hd'
            obtain rfl : d = d' := by simpa using hd'
            exact hd
          have g1 : decide ((p : Int) < (s.size : Int)) = true := by simp; omega
          have hki : (p : Int) < (s.size : Int) := by omega
          have hbb := bt_bounds s p
          have hgb := get_bt s
          have HS : Hid (Suf s p (c.sch.data.toList ++ (rP loose bare true c.ps ++ rC loose bare false rest))) := l4
          have HG : Hid (Got wC w.heap.size _ E) := l5
          have HP : Hid (PS wC pb s p) := l3
          have HA : Hid (E.map (·.1) ++ c :: rest = all) := l1
          have HCk : Hid (∀ d ∈ c :: rest, ChOk d) := l2
          have HC1 : Hid (ChOk c) := hck
          clear l1 l2 l3 l4 l5 HL hck e1
          go_wp2
          go_loopw [] (fun wr => wr = wC) (fun _ => 0)
          case atStart => rfl
          case round =>
            subst hrel
            go_wp2
            go_quiet ((go_at_call 19; refine Calls.quiet_of_same (isTokenChar_any _ hbb.1 hbb.2 _)))
            go_wp2_with fail
            refine (token_str pb s p c.sch _ _ (by exact HP.out.drewN _) (by omega) HS.out HC1.out.sch (rP_no loose bare true c.ps rest)).mono ?_
            rintro e w1 ⟨rfl, hp1, ho1⟩
            have ho2 : Only pb wr w1 := ((Only.refl pb wr).drewN _).trans ho1
            have HG1 : Hid (Got w1 w.heap.size _ E) := HG.out.only HP.out ho2
            have HP1 : Hid (PS w1 pb s (p + c.sch.data.toList.length)) := hp1
            have HS1 : Hid (Suf s (p + c.sch.data.toList.length) (rP loose bare true c.ps ++ rC loose bare false rest)) := HS.out.step
            have hb1 : Below w.heap.size w w1 := hbel.trans (ho2.1.mono hpbB)
            have hsl := HC1.out.len
            have hs0 := HC1.out.sch.1
            clear ho1 hp1 ho2 HS HP HG hbel hbb hki g1 htc hps c0 c1
            generalize p + c.sch.data.toList.length = p1 at *
            have hne := HC1.out.sch.ne
            go_wp2_with fail
            refine (tolower_tok c.sch w1 HC1.out.sch hsl).mono ?_
            rintro e w2 ⟨rfl, hb2⟩
            have HG2 : Hid (Got w2 w.heap.size _ E) := HG1.out.below hb2
            have HP2 : Hid (PS w2 pb s p1) := HP1.out.below hb2
            have hb3 : Below w.heap.size w w2 := hb1.trans (hb2.mono hb1.size)
            clear hb1 hb2 HG1 HP1
            go_wp2
            have HM0 : Hid (Mid w ((w2.alloc (.map #[] 0)).alloc (.cells #[.string (low c.sch), .map (some w2.heap.size)] 33)) w.heap.size pb (w2.heap.size + 1) w2.heap.size s p1 _ E c.sch []) := Mid.start c.sch HP2.out HG2.out hb3 hpbB
            clear HG2 HP2 hb3
            generalize w2.heap.size + 1 = sb at *
            generalize w2.heap.size = mb at *
            generalize (w2.alloc (.map #[] 0)).alloc (.cells #[.string (low c.sch), .map (some mb)] 33) = w3 at *
            clear w2 hne
            go_loopg [] (c.ps.length + 1) (fun g wr => ∃ (done ps2 : List Pm) (f : Bool) (p : Nat), ps2.length + 1 = g ∧ done.length + ps2.length = c.ps.length ∧ Hid (c.ps = done ++ ps2) ∧ Hid (Mid w wr w.heap.size pb sb mb s p u3 E c.sch done) ∧ Hid (Suf s p (rP loose bare f ps2 ++ rC loose bare false rest)))
            case atStart => exact ⟨[], c.ps, true, p1, rfl, by simp, rfl, HM0, HS1⟩
            case round =>
              clear HM0 HS1
              obtain ⟨done, ps2, f, p2, hg2, hdl, HD, HM, HS⟩ := hrel
              obtain ⟨gK, rfl⟩ : ∃ g, gk = g + 1 := ⟨gk - 1, by omega⟩
              obtain ⟨wD, rfl⟩ : ∃ x, x = wr := ⟨wr, rfl⟩
              cases ps2 with
              | cons q ps3 =>
                have hq := HC1.out.prm q (by rw [HD.out]; simp)
                have e1 : rP loose bare f (q :: ps3) ++ rC loose bare false rest = (if f then aftT loose else sepT loose) ++ (q.1.data.toList ++ (preT loose ++ (61 :: (preT loose ++ (valT bare q.2 ++ (rP loose bare false ps3 ++ rC loose bare false rest)))))) := by
                  simp [rP, oneP, eqT_split]
                have h1 := HS.out
                rw [e1] at h1
                have hno := rP_no loose bare false ps3 rest
                obtain ⟨T0, hT0⟩ : ∃ x, x = rP loose bare false ps3 ++ rC loose bare false rest := ⟨_, rfl⟩
                rw [← hT0] at h1 hno
                have HT0 : Hid (T0 = rP loose bare false ps3 ++ rC loose bare false rest) := hT0
                have HNo : Hid (NoTok T0) := hno
                have HS2 : Hid (Suf s p2 ((if f then aftT loose else sepT loose) ++ (q.1.data.toList ++ (preT loose ++ (61 :: (preT loose ++ (valT bare q.2 ++ T0))))))) := h1
                have HQ : Hid (Tok q.1 ∧ q.1.size ≤ 65536 ∧ q.2.size ≤ 65536) := hq
                clear h1 e1 hq HS hT0 hno
                go_wp2_with fail
                refine (skip_suf pb s blanks3 p2 _ _ _ HM.out.ps (by omega) HS2.out (lead_b3 loose f) (HQ.out.1.hd _).b3).mono ?_
                rintro e w4 ⟨rfl, hp4, ho4⟩
                have HM4 : Hid (Mid w w4 w.heap.size pb sb mb s (p2 + (if f then aftT loose else sepT loose).length) u3 E c.sch done) := HM.out.only hp4 ho4
                have HS4 : Hid (Suf s (p2 + (if f then aftT loose else sepT loose).length) (q.1.data.toList ++ (preT loose ++ (61 :: (preT loose ++ (valT bare q.2 ++ T0)))))) := HS2.out.step
                have hc4 := two_cell1 hp4
                clear hp4 ho4 HM HS2
                generalize p2 + (if f then aftT loose else sepT loose).length = p4 at *
                go_wp2_with fail
                refine (token_str pb s p4 q.1 _ _ HM4.out.ps (by omega) HS4.out HQ.out.1 (pre_no loose _)).mono ?_
                rintro e w5 ⟨rfl, hp5, ho5⟩
                have HM5 : Hid (Mid w w5 w.heap.size pb sb mb s (p4 + q.1.data.toList.length) u3 E c.sch done) := HM4.out.only hp5 ho5
                have HS5 : Hid (Suf s (p4 + q.1.data.toList.length) (preT loose ++ (61 :: (preT loose ++ (valT bare q.2 ++ T0))))) := HS4.out.step
                clear hp5 ho5 HM4 HS4
                generalize p4 + q.1.data.toList.length = p5 at *
                go_wp2_with fail
                refine (skip_suf pb s blanks2 p5 _ _ _ HM5.out.ps (by omega) HS5.out (pre_b2 loose) (b2_61 _)).mono ?_
                rintro e w6 ⟨rfl, hp6, ho6⟩
                have HM6 : Hid (Mid w w6 w.heap.size pb sb mb s (p5 + (preT loose).length) u3 E c.sch done) := HM5.out.only hp6 ho6
                have HS6 : Hid (Suf s (p5 + (preT loose).length) (61 :: (preT loose ++ (valT bare q.2 ++ T0)))) := HS5.out.step
                clear hp6 ho6 HM5 HS5
                generalize p5 + (preT loose).length = p6 at *
                have hne := HQ.out.1.ne
                go_wp2_with fail
                refine (next_yes_suf pb s p6 _ _ HM6.out.ps (by omega) HS6.out).mono ?_
                rintro e w7 ⟨rfl, hp7, ho7⟩
                have HM7 : Hid (Mid w w7 w.heap.size pb sb mb s (p6 + 1) u3 E c.sch done) := HM6.out.only hp7 ho7
                have HS7 : Hid (Suf s (p6 + 1) (preT loose ++ (valT bare q.2 ++ T0))) := Suf.step (a := [61]) HS6.out
                clear hp7 ho7 HM6 HS6 hne
                generalize p6 + 1 = p7 at *
                go_wp2_with fail
                refine (skip_suf pb s blanks2 p7 _ _ _ HM7.out.ps (by omega) HS7.out (pre_b2 loose) (val_b2 bare q.2 T0)).mono ?_
                rintro e w8 ⟨rfl, hp8, ho8⟩
                have HM8 : Hid (Mid w w8 w.heap.size pb sb mb s (p7 + (preT loose).length) u3 E c.sch done) := HM7.out.only hp8 ho8
                have HS8 : Hid (Suf s (p7 + (preT loose).length) (valT bare q.2 ++ T0)) := HS7.out.step
                clear hp8 ho8 HM7 HS7
                generalize p7 + (preT loose).length = p8 at *
                have c8 := HM8.out.c1
                have hdn : done.length ≤ 65536 := by have := HC1.out.num; omega
                go_wp2_with fail
                go_region_with (first
                  | (go_at_call 21; refine (tolower_tok q.1 _ HQ.out.1 HQ.out.2.1).mono ?_; rintro e w9 ⟨rfl, hb9⟩; have HM9 : Hid (Mid w w9 w.heap.size pb sb mb s p8 u3 E c.sch done) := HM8.out.drew.new hb9; have c9 := HM9.out.c1; clear hb9)
                  | (go_at_call 24; refine (value_suf pb s p8 bare q.2 T0 _ HM9.out.ps (by omega) HS8.out HNo.out).mono ?_; rintro e w10 ⟨rfl, hp10, ho10⟩; have HM10 : Hid (Mid w w10 w.heap.size pb sb mb s (p8 + (valT bare q.2).length) u3 E c.sch done) := HM9.out.only hp10 ho10; have c10 := HM10.out.c1; clear hp10 ho10; obtain ⟨w11, hrun, hM11⟩ := HM10.out.store q hdn (by have := HQ.out.2.1; omega) (by have := HQ.out.2.2; omega); have HM11 : Hid (Mid w w11 w.heap.size pb sb mb s (p8 + (valT bare q.2).length) u3 E c.sch (done ++ [q])) := hM11; clear hM11))
                all_goals
                  go_wp2
                  go_roundg gK
                  case measure => omega
                  case rel => exact ⟨done ++ [q], ps3, false, p8 + (valT bare q.2).length, by simp at hg2; omega, by simp at hdl ⊢; omega, (by rw [HD.out]; simp : c.ps = (done ++ [q]) ++ ps3), HM11, (by rw [← HT0.out]; exact HS8.out.step : Suf s _ _)⟩
              | nil =>
                cases rest with
                | nil =>
                  have h1 : Suf s p2 [] := by simpa [rP, rC] using HS.out
                  have HS2 : Hid (Suf s p2 []) := h1
                  clear h1 HS
                  go_wp2_with fail
                  refine (skip_suf pb s blanks3 p2 [] [] _ HM.out.ps (by omega) HS2.out (by simp) (by simp)).mono ?_
                  rintro e w4 ⟨rfl, hp4, ho4⟩
                  have HM4 : Hid (Mid w w4 w.heap.size pb sb mb s p2 u3 E c.sch done) := HM.out.only hp4 ho4
                  have hc4 := two_cell1 HM4.out.ps
                  clear hp4 ho4 HM
                  go_wp2_with fail
                  refine (token_none pb s p2 _ HM4.out.ps (by omega) HS2.out).mono ?_
                  rintro e w5 ⟨rfl, hp5, ho5⟩
                  have HM5 : Hid (Mid w w5 w.heap.size pb sb mb s p2 u3 E c.sch done) := HM4.out.only hp5 ho5
                  clear hp5 ho5 HM4
                  go_wp2_with fail
                  refine (skip_suf pb s blanks2 p2 [] [] _ HM5.out.ps (by omega) HS2.out (by simp) (by simp)).mono ?_
                  rintro e w6 ⟨rfl, hp6, ho6⟩
                  have HM6 : Hid (Mid w w6 w.heap.size pb sb mb s p2 u3 E c.sch done) := HM5.out.only hp6 ho6
                  clear hp6 ho6 HM5
                  have hc6 := two_cell1 HM6.out.ps
                  have hf6 := Lib.frozen_of_heap HM6.out.ps 1
                  go_upto_region 19 with fail
                  have HM7 : Hid (Mid w (w6.setCell ⟨pb, 1, none⟩ (.int .i64 p2)) w.heap.size pb sb mb s p2 u3 E c.sch done) := HM6.out.at_ p2
                  generalize w6.setCell ⟨pb, 1, none⟩ (.int .i64 p2) = w7 at *
                  have b0 := two_cell0 HM7.out.blk
                  have b1 := two_cell1 HM7.out.blk
                  have hbs : w.heap.size ≤ w7.heap.size := HM7.out.bel.size
                  have hown7 := HM7.out.got.1
                  clear hc4 hc6 hf6 HM6
                  go_wp2_with (at_builtin; refine wpList_append_own _ rfl (.tmp 87) (.tmp 89) 27 rfl w.heap.size 33 i0 (.agg #[.string ⟨#[]⟩, .map none]) 2 24 Tryd.underlying27 hi0 hz0 hz1 hz2 rfl (by decide) _ _ _ rfl (hown7.alloc _) ⟨w7.heap.size, 0, none⟩ 1 1 [.string (low c.sch), .map (some mb)] rfl rfl (cell_two_new _ _ _ _) (two_ok _ _) (by unfold maxLen; simp at hEl; omega) (by simp at hEl; omega) (by simp; omega) ?_; intro v9 w9 hown9 hg9 hnn; clear hnn)
                  have R := HM7.out.append c rfl (by have := HD.out; simpa using this) rfl hown9 hg9
                  clear hown9 hg9 hown7 b0 b1
                  go_roundg gI
                  case measure => omega
                  case rel => exact ⟨E ++ [(c, mb)], [], p2, by simp at hg ⊢; omega, by simp at hEl ⊢; omega, ⟨by rw [← HA.out]; simp, fun d hd => HCk.out d (List.mem_cons_of_mem _ hd), R.1, HS2.out, R.2.1⟩, R.2.2⟩
                | cons d rest =>
                  have hd := HCk.out d (by simp)
                  have e1 : rP loose bare f [] ++ rC loose bare false (d :: rest) = sepT loose ++ (d.sch.data.toList ++ (rP loose bare true d.ps ++ rC loose bare false rest)) := by simp [rP, rC]
                  have h1 := HS.out
                  rw [e1] at h1
                  obtain ⟨a, z, haz, ha1, hz1', hz2'⟩ := scheme_tail loose bare d.ps rest hd.toks
                  have hno := rP_no loose bare true d.ps rest
                  have e2 : rC loose bare true (d :: rest) = d.sch.data.toList ++ (a ++ z) := by rw [← haz]; simp [rC]
                  rw [haz] at h1 hno
                  have HRC : Hid (rC loose bare true (d :: rest) = d.sch.data.toList ++ (a ++ z)) := e2
                  have HS2 : Hid (Suf s p2 (sepT loose ++ (d.sch.data.toList ++ (a ++ z)))) := h1
                  have HNo : Hid (NoTok (a ++ z)) := hno
                  have HA1 : Hid (∀ c ∈ a, inset blanks2 (c.toNat : Int) = true) := ha1
                  have HZ1 : Hid (∀ c, z.head? = some c → inset blanks2 (c.toNat : Int) = false) := hz1'
                  have HZ2 : Hid (∀ c, z.head? = some c → c ≠ 61) := hz2'
                  have HQ : Hid (Tok d.sch) := hd.sch
                  clear h1 HS e1 e2 haz hno ha1 hz1' hz2' hd
                  go_wp2_with fail
                  refine (skip_suf pb s blanks3 p2 _ _ _ HM.out.ps (by omega) HS2.out (sep_b3 loose) (HQ.out.hd _).b3).mono ?_
                  rintro e w4 ⟨rfl, hp4, ho4⟩
                  have HM4 : Hid (Mid w w4 w.heap.size pb sb mb s (p2 + (sepT loose).length) u3 E c.sch done) := HM.out.only hp4 ho4
                  have HS4 : Hid (Suf s (p2 + (sepT loose).length) (d.sch.data.toList ++ (a ++ z))) := HS2.out.step
                  clear hp4 ho4 HM HS2
                  generalize p2 + (sepT loose).length = p4 at *
                  have hc4 := two_cell1 HM4.out.ps
                  go_wp2_with fail
                  refine (token_str pb s p4 d.sch _ _ HM4.out.ps (by omega) HS4.out HQ.out HNo.out).mono ?_
                  rintro e w5 ⟨rfl, hp5, ho5⟩
                  have HM5 : Hid (Mid w w5 w.heap.size pb sb mb s (p4 + d.sch.data.toList.length) u3 E c.sch done) := HM4.out.only hp5 ho5
                  have HS5 : Hid (Suf s (p4 + d.sch.data.toList.length) (a ++ z)) := HS4.out.step
                  clear hp5 ho5 HM4
                  generalize p4 + d.sch.data.toList.length = p5 at *
                  go_wp2_with fail
                  refine (skip_suf pb s blanks2 p5 _ _ _ HM5.out.ps (by omega) HS5.out HA1.out HZ1.out).mono ?_
                  rintro e w5' ⟨rfl, hp6, ho6⟩
                  have HM5' : Hid (Mid w w5' w.heap.size pb sb mb s (p5 + a.length) u3 E c.sch done) := HM5.out.only hp6 ho6
                  have HS5' : Hid (Suf s (p5 + a.length) z) := HS5.out.step
                  clear hp6 ho6 HM5 HS5
                  generalize p5 + a.length = p6 at *
                  have hne := HQ.out.ne
                  go_wp2_with fail
                  refine (next_no_suf pb s p6 _ _ HM5'.out.ps HS5'.out HZ2.out).mono ?_
                  rintro e w6 ⟨rfl, hp6, ho6⟩
                  have HM6 : Hid (Mid w w6 w.heap.size pb sb mb s p6 u3 E c.sch done) := HM5'.out.only hp6 ho6
                  clear hp6 ho6 HM5' hne
                  have hc6 := two_cell1 HM6.out.ps
                  have hf6 := Lib.frozen_of_heap HM6.out.ps 1
                  go_upto_region 19 with fail
                  have HM7 : Hid (Mid w (w6.setCell ⟨pb, 1, none⟩ (.int .i64 p4)) w.heap.size pb sb mb s p4 u3 E c.sch done) := HM6.out.at_ p4
                  generalize w6.setCell ⟨pb, 1, none⟩ (.int .i64 p4) = w7 at *
                  have b0 := two_cell0 HM7.out.blk
                  have b1 := two_cell1 HM7.out.blk
                  have hbs : w.heap.size ≤ w7.heap.size := HM7.out.bel.size
                  have hown7 := HM7.out.got.1
                  clear hc4 hc6 hf6 HM6
                  go_wp2_with (at_builtin; refine wpList_append_own _ rfl (.tmp 87) (.tmp 89) 27 rfl w.heap.size 33 i0 (.agg #[.string ⟨#[]⟩, .map none]) 2 24 Tryd.underlying27 hi0 hz0 hz1 hz2 rfl (by decide) _ _ _ rfl (hown7.alloc _) ⟨w7.heap.size, 0, none⟩ 1 1 [.string (low c.sch), .map (some mb)] rfl rfl (cell_two_new _ _ _ _) (two_ok _ _) (by unfold maxLen; simp at hEl; omega) (by simp at hEl; omega) (by simp; omega) ?_; intro v9 w9 hown9 hg9 hnn; clear hnn)
                  have R := HM7.out.append c rfl (by have := HD.out; simpa using this) rfl hown9 hg9
                  clear hown9 hg9 hown7 b0 b1
                  go_roundg gI
                  case measure => omega
                  case rel => exact ⟨E ++ [(c, mb)], d :: rest, p4, by simp at hg ⊢; omega, by simp at hEl ⊢; omega, ⟨by rw [← HA.out]; simp, fun d hd => HCk.out d (List.mem_cons_of_mem _ hd), R.1, (by rw [HRC.out]; exact HS4.out), R.2.1⟩, R.2.2⟩
    · obtain rfl : i = n := by omega
      go_wp2
      go_ret
      exact ⟨_, E, rfl, ⟨by rw [HE.out.1, ← HN.out, List.take_length], HE.out.2⟩, hbel⟩
end Go.Proofs.Qxb6601748aDoor

/- Seat b6601748aD: what parseChallenges has in memory. -/
import Derived.Test.Qxb6601748aDoorM
namespace Go.Proofs.Qxb6601748aDoor
open Go.RowKit Go.PlainAid Go.Maps Go.WideMaps

theorem Tryd.info33 : (Tryd.prog.info? 33).map (fun i => (i.zero, i.size, i.bytes)) = some (some (.agg #[.string ⟨#[]⟩, .map none]), 2, 24) := by kernel_rfl
theorem Tryd.keyed9 : Keyed Tryd.prog 9 := string_keyed Tryd.underlying9

theorem low_size (s : ByteArray) : (low s).size = s.size := by
  show (Lib.toLowerA s.data.toList).toArray.size = s.size
  rw [List.size_toArray, Lib.toLowerA, List.length_map, Array.length_toList, ByteArray.size_data]
/-- The cells of the challenges that were found, each with the block of its map. -/
def gotCells (E : List (Ch × Nat)) : List Value := E.flatMap fun e => [.string (low e.1.sch), .map (some e.2)]
theorem gotCells_snoc (E : List (Ch × Nat)) (c : Ch) (m : Nat) : gotCells (E ++ [(c, m)]) = gotCells E ++ [.string (low c.sch), .map (some m)] := by simp [gotCells]
abbrev MapAt (w : World) (b n : Nat) (D : DataW Unit) : Prop := w.ownsMap Tryd.prog 9 (plainElem Tryd.prog 9) b n D
def Got (w : World) (B : Nat) (v : Value) (E : List (Ch × Nat)) : Prop := w.ownsRow B 33 2 v E.length (gotCells E) ∧ ∀ e ∈ E, MapAt w e.2 e.1.ps.length (mpD e.1.ps)

theorem own_blk {w w' : World} {B n : Nat} {e : TypeId} {sz : Nat} {v : Value} {xs : List Value} (h : w.ownsRow B e sz v n xs) (hs : ∀ k, v.ownBlock = some k → w'.heap[k]? = w.heap[k]?) : w'.ownsRow B e sz v n xs := by
  rcases h.2 with ⟨rfl, h0⟩ | ⟨g, cap, cur, rfl, hb', hg, r⟩
  · exact ⟨h.1, Or.inl ⟨rfl, h0⟩⟩
  · exact ⟨h.1, Or.inr ⟨_, _, cur, rfl, hb', (hs g rfl).trans hg, r⟩⟩
theorem own_obj {w : World} {B n : Nat} {e : TypeId} {sz : Nat} {v : Value} {xs : List Value} (h : w.ownsRow B e sz v n xs) : ∀ k, v.ownBlock = some k → B ≤ k ∧ ∃ cur, w.heap[k]? = some (.cells cur e (0, 0)) := by
  intro k hk
  rcases h.2 with ⟨rfl, _⟩ | ⟨g, cap, cur, rfl, hb', hg, _⟩
  · simp [Value.ownBlock] at hk
  · simp [Value.ownBlock] at hk
    subst hk
    exact ⟨hb', cur, hg⟩
theorem map_blk {w w' : World} {b n : Nat} {D : DataW Unit} (h : MapAt w b n D) (hs : w'.heap[b]? = w.heap[b]?) : MapAt w' b n D := by
  obtain ⟨es, cl, hb, r⟩ := h
  exact ⟨es, cl, hs.trans hb, r⟩
theorem map_obj {w : World} {b n : Nat} {D : DataW Unit} (h : MapAt w b n D) : ∃ es cl, w.heap[b]? = some (.map es cl) := by
  obtain ⟨es, cl, hb, _⟩ := h
  exact ⟨es, cl, hb⟩
theorem Got.blk {w w' : World} {B : Nat} {v : Value} {E : List (Ch × Nat)} (h : Got w B v E) (h1 : ∀ k, v.ownBlock = some k → w'.heap[k]? = w.heap[k]?) (h2 : ∀ e ∈ E, w'.heap[e.2]? = w.heap[e.2]?) : Got w' B v E :=
  ⟨own_blk h.1 h1, fun e he => map_blk (h.2 e he) (h2 e he)⟩
theorem Got.below {w w' : World} {B : Nat} {v : Value} {E : List (Ch × Nat)} (h : Got w B v E) (hb : Below w.heap.size w w') : Got w' B v E :=
  h.blk (fun k hk => by obtain ⟨_, cur, hc⟩ := own_obj h.1 k hk; exact hb.block k (lt_of_heap hc)) (fun e he => hb.block _ (h.2 e he).lt)
theorem Got.nil (w : World) (B : Nat) : Got w B (.slice none 0 0) [] := ⟨⟨rfl, Or.inl ⟨rfl, rfl⟩⟩, fun e he => by simp at he⟩

theorem Only.block {pb : Nat} {w w' : World} (h : Only pb w w') {k : Nat} (hk : k ≠ pb) (hs : k < w.heap.size) : w'.heap[k]? = w.heap[k]? := by
  rcases Nat.lt_or_ge k pb with h1 | h1
  · exact h.1.block k h1
  · exact h.2 k (by omega) hs
theorem Got.only {w w' : World} {B pb : Nat} {v : Value} {E : List (Ch × Nat)} {s : ByteArray} {p : Nat} (h : Got w B v E) (hp : PS w pb s p) (ho : Only pb w w') : Got w' B v E := by
  refine h.blk (fun k hk => ?_) (fun e he => ?_)
  · obtain ⟨_, cur, hc⟩ := own_obj h.1 k hk
    refine ho.block (fun e => ?_) (lt_of_heap hc)
    subst e
    have := hc.symm.trans hp
    simp at this
  · obtain ⟨es, cl, hc⟩ := map_obj (h.2 e he)
    refine ho.block (fun e => ?_) (lt_of_heap hc)
    rw [e] at hc
    have := hc.symm.trans hp
    simp at this

/-- Inside a challenge: the parser at pb, the challenge's struct at sb, its map at mb. -/
structure Mid (w0 w : World) (B pb sb mb : Nat) (s : ByteArray) (p : Nat) (v : Value) (E : List (Ch × Nat)) (sch : ByteArray) (done : List Pm) : Prop where
  ps : PS w pb s p
  got : Got w B v E
  blk : w.heap[sb]? = some (.cells #[.string (low sch), .map (some mb)] 33 (0, 0))
  map : MapAt w mb done.length (mpD done)
  bel : Below B w0 w
  hpb : B ≤ pb
  hmb : B ≤ mb
  apart : ∀ e ∈ E, e.2 ≠ mb

variable {w0 w w' : World} {B pb sb mb : Nat} {s : ByteArray} {p : Nat} {v : Value} {E : List (Ch × Nat)} {sch : ByteArray} {done : List Pm}
theorem Mid.only (h : Mid w0 w B pb sb mb s p v E sch done) {p' : Nat} (hp : PS w' pb s p') (ho : Only pb w w') : Mid w0 w' B pb sb mb s p' v E sch done := by
  refine ⟨hp, h.got.only h.ps ho, ?_, ?_, h.bel.trans (ho.1.mono h.hpb), h.hpb, h.hmb, h.apart⟩
  · refine (ho.block (fun e => ?_) (lt_of_heap h.blk)).trans h.blk
    have h1 := h.blk
    rw [e] at h1
    have := h1.symm.trans h.ps
    simp at this
  · refine map_blk h.map (ho.block (fun e => ?_) h.map.lt)
    obtain ⟨es, cl, h1⟩ := map_obj h.map
    rw [e] at h1
    have := h1.symm.trans h.ps
    simp at this
theorem Mid.new (h : Mid w0 w B pb sb mb s p v E sch done) (hb : Below w.heap.size w w') : Mid w0 w' B pb sb mb s p v E sch done :=
  h.only (h.ps.below hb) (Only.of_below hb (Nat.le_of_lt h.ps.lt))
theorem Mid.drew (h : Mid w0 w B pb sb mb s p v E sch done) : Mid w0 w.drew B pb sb mb s p v E sch done := h.new (Below.refl _ _).drew
theorem Mid.c1 (h : Mid w0 w B pb sb mb s p v E sch done) : w.cell? ⟨sb, 1, none⟩ = some (.map (some mb)) := two_cell1 h.blk
theorem Mid.at_ (h : Mid w0 w B pb sb mb s p v E sch done) (j : Nat) : Mid w0 (w.setCell ⟨pb, 1, none⟩ (.int .i64 j)) B pb sb mb s j v E sch done :=
  h.only (h.ps.set j) ((Only.refl _ _).setCell 1 _)
theorem Mid.put (h : Mid w0 w B pb sb mb s p v E sch done) (q : Pm) (hm : MapAt w' mb (done.length + 1) ((mpD done).put (kL q.1) (vL q.2))) (hg : w.grownBy w' (some mb)) : Mid w0 w' B pb sb mb s p v E sch (done ++ [q]) := by
  obtain ⟨es, cl, hmo⟩ := map_obj h.map
  have hk : ∀ k, k < w.heap.size → k ≠ mb → w'.heap[k]? = w.heap[k]? := fun k h1 h2 => hg.block k h1 (by simpa using h2)
  have hB : B ≤ w.heap.size := by have := h.map.lt; have := h.hmb; omega
  refine ⟨?_, h.got.blk (fun k hkb => ?_) (fun e he => hk _ (h.got.2 e he).lt (h.apart e he)), ?_, by rw [mpD_snoc]; simpa using hm, h.bel.grown hg hB (fun k e => by cases e; exact h.hmb), h.hpb, h.hmb, h.apart⟩
  · refine (hk pb h.ps.lt (fun e => ?_)).trans h.ps
    have h1 := h.ps
    rw [e] at h1
    have := hmo.symm.trans h1
    simp at this
  · obtain ⟨_, cur, hc⟩ := own_obj h.got.1 k hkb
    refine hk k (lt_of_heap hc) (fun e => ?_)
    rw [e] at hc
    have := hmo.symm.trans hc
    simp at this
  · refine (hk sb (lt_of_heap h.blk) (fun e => ?_)).trans h.blk
    have h1 := h.blk
    rw [e] at h1
    have := hmo.symm.trans h1
    simp at this
/-- The store into the map. -/
theorem Mid.store (h : Mid w0 w B pb sb mb s p v E sch done) (q : Pm) (hn : done.length ≤ 65536) (h1 : q.1.size ≤ 16777216) (h2 : q.2.size ≤ 16777216) :
    ∃ w', (Instr.mapUpdate 31 (.map (some mb)) (.string (low q.1)) (.string q.2)).run Tryd.prog w = .ok () w' ∧ Mid w0 w' B pb sb mb s p v E sch (done ++ [q]) := by
  have hl : (low q.1).size ≤ maxLen := by
    rw [low_size]; unfold maxLen; omega
  have hkey : keyOf Tryd.prog 9 (.string (low q.1)) = some (kL q.1) := keyOf_string_mk Tryd.underlying9 hl
  obtain ⟨w', hr, hm, hg⟩ := h.map.update Tryd.keyed9 Tryd.underlying31 (by unfold maxLen; omega) hkey (plainElem_string (H := Unit) (s := q.2) Tryd.underlying9 (by unfold maxLen; omega))
  exact ⟨w', hr, h.put q hm hg⟩
/-- The challenge is appended. -/
theorem Mid.append (h : Mid w0 w B pb sb mb s p v E sch done) (c : Ch) (hs : c.sch = sch) (hd : c.ps = done) {o : Obj} {v' : Value} {n : Nat} (hn : n = E.length + 1)
    (hown : w'.ownsRow B 33 2 v' n (gotCells E ++ [.string (low sch), .map (some mb)])) (hg : (w.alloc o).grownBy w' v.ownBlock) : PS w' pb s p ∧ Got w' B v' (E ++ [(c, mb)]) ∧ Below B w0 w' := by
  subst hs hd hn
  have hk : ∀ k, k < w.heap.size → v.ownBlock ≠ some k → w'.heap[k]? = w.heap[k]? := fun k h1 h2 => (hg.block k (by simp; omega) (fun e => h2 e.symm)).trans (Go.heap_alloc_old w o h1)
  have hB : B ≤ w.heap.size := by have := h.map.lt; have := h.hmb; omega
  have hne : ∀ k, (∃ es cl, w.heap[k]? = some (.map es cl)) → v.ownBlock ≠ some k := by
    rintro k ⟨es, cl, hm⟩ e
    obtain ⟨_, cur, hc⟩ := own_obj h.got.1 k e
    have := hm.symm.trans hc
    simp at this
  refine ⟨?_, ⟨by rw [gotCells_snoc]; simpa using hown, fun e he => ?_⟩, (h.bel.alloc hB o).grown hg (by simp; omega) (fun k e => (own_obj h.got.1 k e).1)⟩
  · refine (hk pb h.ps.lt (fun e => ?_)).trans h.ps
    obtain ⟨_, cur, hc⟩ := own_obj h.got.1 pb e
    have := hc.symm.trans h.ps
    simp at this
  · rcases List.mem_append.1 he with he | he
    · exact map_blk (h.got.2 e he) (hk _ (h.got.2 e he).lt (hne _ (map_obj (h.got.2 e he))))
    · simp only [List.mem_singleton] at he
      subst he
      exact map_blk h.map (hk _ h.map.lt (hne _ (map_obj h.map)))
end Go.Proofs.Qxb6601748aDoor

/- Seat b6601748aD: the parser's methods over the rest of a text. -/
import Derived.Test.Qxb6601748aDoorJ
namespace Go.Proofs.Qxb6601748aDoor
open Go.RowKit Go.PlainAid

/-- The rest of the text from place p on is l. -/
def Suf (s : ByteArray) (p : Nat) (l : List UInt8) : Prop := At s p l ∧ p + l.length = s.size
theorem Suf.step {s : ByteArray} {p : Nat} {a b : List UInt8} (h : Suf s p (a ++ b)) : Suf s (p + a.length) b :=
  ⟨h.1.right, by have := h.2; simp at this; omega⟩
theorem Suf.le {s : ByteArray} {p : Nat} {a b : List UInt8} (h : Suf s p (a ++ b)) : p + a.length ≤ s.size := by
  have := h.2; simp at this; omega
theorem Suf.all {s : ByteArray} {p : Nat} {a b : List UInt8} (h : Suf s p (a ++ b)) {f : Int → Bool} (hf : ∀ c ∈ a, f (c.toNat : Int) = true) : ∀ k, p ≤ k → k < p + a.length → f (bt s k) = true := by
  intro k h1 h2
  have hk : k - p < a.length := by omega
  have e := h.1.left.2 (k - p) a[k - p] (List.getElem?_eq_getElem hk)
  rw [show p + (k - p) = k by omega] at e
  rw [e]
  exact hf _ (List.getElem_mem hk)
theorem Suf.hd {s : ByteArray} {p : Nat} {b : List UInt8} (h : Suf s p b) {Q : Int → Prop} (hf : ∀ c, b.head? = some c → Q (c.toNat : Int)) : p < s.size → Q (bt s p) := by
  intro hp
  cases b with
  | nil => have := h.2; simp at this; omega
  | cons c b => rw [h.1.head.2]; exact hf c rfl
theorem Suf.cut {s : ByteArray} {p : Nat} {a b : List UInt8} (h : Suf s p (a ++ b)) : s.extract p (p + a.length) = ⟨a.toArray⟩ := by
  have hle := h.le
  apply ByteArray.ext
  apply Array.ext
  · simp; omega
  · intro k h1 h2
    have hk : k < a.length := by simpa using h2
    have e := h.1.left.2 k a[k] (List.getElem?_eq_getElem hk)
    have hks : p + k < s.size := by omega
    rw [← get_bt s (p + k) hks] at e
    have e2 := UInt8.toNat_inj.1 (Int.ofNat.inj e)
    simp only [ByteArray.data_extract, Array.getElem_extract, List.getElem_toArray]
    rw [← e2]
    rfl
theorem Suf.whole (l : List UInt8) : Suf ⟨l.toArray⟩ 0 l := by
  refine ⟨⟨by simp [ByteArray.size], fun k c hk => ?_⟩, by simp [ByteArray.size]⟩
  obtain ⟨hl, rfl⟩ := List.getElem?_eq_some_iff.1 hk
  have hs : 0 + k < (⟨l.toArray⟩ : ByteArray).size := by simpa [ByteArray.size] using hl
  rw [← get_bt _ _ hs]
  simp [ByteArray.getElem_eq_getElem_data]
theorem of_list {s : ByteArray} {l : List UInt8} (h : s.data.toList = l) : s = ⟨l.toArray⟩ := by
  subst h; rfl

theorem skip_suf (pb : Nat) (s set : ByteArray) (i : Nat) (a b : List UInt8) (w : World) (hP : PS w pb s i) (hs : s.size ≤ 16777216) (hS : Suf s i (a ++ b))
    (h1 : ∀ c ∈ a, inset set (c.toNat : Int) = true) (h2 : ∀ c, b.head? = some c → inset set (c.toNat : Int) = false) :
    Calls Tryd.prog 22 #[.pointer (some ⟨pb, 0, none⟩), .string set] w fun e w' => e = .returned (.tuple #[]) ∧ PS w' pb s (i + a.length) ∧ Only pb w w' :=
  skip_any pb s set i _ w hP hs (Nat.le_add_right _ _) hS.le (hS.all h1) (hS.step.hd (Q := fun x => inset set x = false) h2)
theorem token_suf (pb : Nat) (s : ByteArray) (i : Nat) (a b : List UInt8) (w : World) (hP : PS w pb s i) (hs : s.size ≤ 16777216) (hS : Suf s i (a ++ b))
    (h1 : ∀ c ∈ a, tc (c.toNat : Int) = true) (h2 : ∀ c, b.head? = some c → tc (c.toNat : Int) = false) :
    Calls Tryd.prog 20 #[.pointer (some ⟨pb, 0, none⟩)] w fun e w' => e = .returned (.string ⟨a.toArray⟩) ∧ PS w' pb s (i + a.length) ∧ Only pb w w' := by
  rw [← hS.cut]
  exact token_any pb s i _ w hP hs (Nat.le_add_right _ _) hS.le (hS.all h1) (hS.step.hd (Q := fun x => tc x = false) h2)
theorem next_yes_suf (pb : Nat) (s : ByteArray) (i : Nat) (b : List UInt8) (w : World) (hP : PS w pb s i) (hs : s.size ≤ 16777216) (hS : Suf s i (61 :: b)) :
    Calls Tryd.prog 23 #[.pointer (some ⟨pb, 0, none⟩), .int .u8 61] w fun e w' => e = .returned (.bool true) ∧ PS w' pb s (i + 1) ∧ Only pb w w' :=
  next_yes pb s i 61 w hP hs hS.1.head.1 hS.1.head.2
theorem next_no_suf (pb : Nat) (s : ByteArray) (i : Nat) (b : List UInt8) (w : World) (hP : PS w pb s i) (hS : Suf s i b) (h : ∀ c, b.head? = some c → c ≠ 61) :
    Calls Tryd.prog 23 #[.pointer (some ⟨pb, 0, none⟩), .int .u8 61] w fun e w' => e = .returned (.bool false) ∧ PS w' pb s i ∧ Only pb w w' :=
  next_no pb s i 61 w hP (hS.hd (Q := fun x => x ≠ 61) fun c hc e => h c hc (UInt8.toNat_inj.1 (show c.toNat = 61 by omega)))

/-- The head is no token's character. -/
def NoTok (l : List UInt8) : Prop := ∀ c, l.head? = some c → tc (c.toNat : Int) = false
/-- The head is a token's character. -/
def HdTok (l : List UInt8) : Prop := ∃ c t, l = c :: t ∧ tc (c.toNat : Int) = true
theorem Tok.all {s : ByteArray} (h : Tok s) : ∀ c ∈ s.data.toList, tc (c.toNat : Int) = true := by
  intro c hc
  obtain ⟨k, hk, rfl⟩ := List.getElem_of_mem hc
  have hks : k < s.size := by simpa using hk
  have e := h.2 k hks
  rw [← get_bt s k hks] at e
  exact e
theorem Tok.hd {s : ByteArray} (h : Tok s) (l : List UInt8) : HdTok (s.data.toList ++ l) := by
  cases e : s.data.toList with
  | nil => have h1 : s.data.toList.length = 0 := by rw [e]; rfl
           have h2 := h.1
           rw [Array.length_toList, ByteArray.size_data] at h1
           omega
  | cons c t => exact ⟨c, t ++ l, rfl, h.all c (by rw [e]; exact List.mem_cons_self ..)⟩

def blanks3 : ByteArray := ⟨#[32, 9, 44]⟩
def blanks2 : ByteArray := ⟨#[32, 9]⟩
theorem tok_blank : ∀ n : Fin 256, tc (n.val : Int) = true → inset blanks3 (n.val : Int) = false ∧ inset blanks2 (n.val : Int) = false ∧ n.val ≠ 61 ∧ n.val ≠ 34 ∧ n.val < 128 := by decide +kernel
theorem tok_facts {c : UInt8} (h : tc (c.toNat : Int) = true) : inset blanks3 (c.toNat : Int) = false ∧ inset blanks2 (c.toNat : Int) = false ∧ c.toNat ≠ 61 ∧ c.toNat ≠ 34 ∧ c.toNat < 128 := tok_blank ⟨c.toNat, c.toNat_lt⟩ h
theorem HdTok.b3 {l : List UInt8} (h : HdTok l) : ∀ c, l.head? = some c → inset blanks3 (c.toNat : Int) = false := by
  obtain ⟨c, t, rfl, hc⟩ := h
  intro d hd; obtain rfl : c = d := by simpa using hd
  exact (tok_facts hc).1
theorem HdTok.b2 {l : List UInt8} (h : HdTok l) : ∀ c, l.head? = some c → inset blanks2 (c.toNat : Int) = false := by
  obtain ⟨c, t, rfl, hc⟩ := h
  intro d hd; obtain rfl : c = d := by simpa using hd
  exact (tok_facts hc).2.1
theorem HdTok.ne61 {l : List UInt8} (h : HdTok l) : ∀ c, l.head? = some c → c ≠ 61 := by
  obtain ⟨c, t, rfl, hc⟩ := h
  intro d hd e; obtain rfl : c = d := by simpa using hd
  exact (tok_facts hc).2.2.1 (by rw [e]; rfl)

theorem sep_b3 (loose : Bool) : ∀ c ∈ sepT loose, inset blanks3 (c.toNat : Int) = true := by cases loose <;> decide +kernel
theorem aft_b3 (loose : Bool) : ∀ c ∈ aftT loose, inset blanks3 (c.toNat : Int) = true := by cases loose <;> decide +kernel
theorem aft_b2 (loose : Bool) : ∀ c ∈ aftT loose, inset blanks2 (c.toNat : Int) = true := by cases loose <;> decide +kernel
theorem sep_no (loose : Bool) (l : List UInt8) : NoTok (sepT loose ++ l) := by
  intro c hc
  cases loose <;> (simp [sepT] at hc; subst hc; decide +kernel)
theorem aft_no (loose : Bool) (l : List UInt8) : NoTok (aftT loose ++ l) := by
  intro c hc
  cases loose <;> (simp [aftT] at hc; subst hc; decide +kernel)
theorem eq_no (loose : Bool) (l : List UInt8) : NoTok (eqT loose ++ l) := by
  intro c hc
  cases loose <;> (simp [eqT] at hc; subst hc; decide +kernel)
theorem rC_no (loose bare : Bool) (cs : List Ch) : NoTok (rC loose bare false cs) := by
  cases cs with
  | nil => intro c hc; simp [rC] at hc
  | cons c cs => simp only [rC, Bool.false_eq_true, if_false, List.append_assoc]; exact sep_no _ _
theorem rP_no (loose bare first : Bool) (ps : List Pm) (cs : List Ch) : NoTok (rP loose bare first ps ++ rC loose bare false cs) := by
  cases ps with
  | nil => simpa [rP] using rC_no loose bare cs
  | cons p ps => cases first <;> simp only [rP, Bool.false_eq_true, if_false, if_true, List.append_assoc]; exact sep_no _ _; exact aft_no _ _

/-- Ahead of a value. -/
def preT (loose : Bool) : List UInt8 := if loose then [32] else []
theorem eqT_split (loose : Bool) : eqT loose = preT loose ++ 61 :: preT loose := by cases loose <;> rfl
theorem pre_b2 (loose : Bool) : ∀ c ∈ preT loose, inset blanks2 (c.toNat : Int) = true := by cases loose <;> decide +kernel
theorem val_b2 (bare : Bool) (v : ByteArray) (l : List UInt8) : ∀ c, (valT bare v ++ l).head? = some c → inset blanks2 (c.toNat : Int) = false := by
  unfold valT
  split
  · rename_i h
    have ht := (tokB_iff v).1 (by simp at h; exact h.2)
    exact (ht.hd l).b2
  · intro c hc
    simp [qt] at hc
    subst hc
    decide +kernel

theorem value_suf (pb : Nat) (s : ByteArray) (i : Nat) (bare : Bool) (v : ByteArray) (b : List UInt8) (w : World) (hP : PS w pb s i) (hs : s.size ≤ 16777216) (hS : Suf s i (valT bare v ++ b)) (hb : NoTok b) :
    Calls Tryd.prog 24 #[.pointer (some ⟨pb, 0, none⟩)] w fun e w' => e = .returned (.string v) ∧ PS w' pb s (i + (valT bare v).length) ∧ Only pb w w' := by
  by_cases h : (bare && tokB v) = true
  · have ht := (tokB_iff v).1 (by simp at h; exact h.2)
    have ev : valT bare v = v.data.toList := by simp only [valT, h, if_true]
    rw [ev] at hS ⊢
    have h34 : i < s.size → bt s i ≠ 34 := hS.hd (Q := fun x => x ≠ 34) (by
      obtain ⟨c, t, e, hc⟩ := ht.hd b
      rw [e]
      intro d hd; obtain rfl : c = d := by simpa using hd
      have := (tok_facts hc).2.2.2.1
      omega)
    have hv : s.extract i (i + v.data.toList.length) = v := hS.cut.trans rfl
    have := value_bare pb s i _ w hP hs (Nat.le_add_right _ _) hS.le h34 (hS.all ht.all) (hS.step.hd (Q := fun x => tc x = false) hb)
    rw [hv] at this
    exact this
  · have ev : valT bare v = 34 :: (escs v.data.toList ++ [34]) := by simp [valT, h, qt]
    rw [ev] at hS ⊢
    have := value_quoted pb s i v.data.toList w hP hs hS.1.left
    have e1 : i + (34 :: (escs v.data.toList ++ [34])).length = i + (escs v.data.toList).length + 2 := by simp; omega
    rw [e1]
    exact this

/-- What stands behind a scheme that is taken for a name: blanks, and no '='. -/
theorem scheme_tail (loose bare : Bool) (ps : List Pm) (cs : List Ch) (hp : ∀ j, j < ps.length → Tok (pn ps j)) : ∃ a b, rP loose bare true ps ++ rC loose bare false cs = a ++ b ∧ (∀ c ∈ a, inset blanks2 (c.toNat : Int) = true) ∧ (∀ c, b.head? = some c → inset blanks2 (c.toNat : Int) = false) ∧ (∀ c, b.head? = some c → c ≠ 61) := by
  cases ps with
  | cons p ps =>
    have ht : Tok p.1 := hp 0 (by simp)
    have hh := ht.hd (eqT loose ++ valT bare p.2 ++ (rP loose bare false ps ++ rC loose bare false cs))
    refine ⟨aftT loose, p.1.data.toList ++ (eqT loose ++ valT bare p.2 ++ (rP loose bare false ps ++ rC loose bare false cs)), ?_, aft_b2 loose, hh.b2, hh.ne61⟩
    simp [rP, oneP]
  | nil =>
    cases cs with
    | nil => exact ⟨[], [], by simp [rP, rC], by simp, by simp, by simp⟩
    | cons c cs =>
      cases loose with
      | false =>
        refine ⟨[], [44, 32] ++ (c.sch.data.toList ++ (rP false bare true c.ps ++ rC false bare false cs)), by simp [rP, rC, sepT], by simp, ?_, ?_⟩ <;> (intro d hd; simp at hd; subst hd; decide +kernel)
      | true =>
        refine ⟨[32], [44, 9, 44, 32] ++ (c.sch.data.toList ++ (rP true bare true c.ps ++ rC true bare false cs)), by simp [rP, rC, sepT], by decide +kernel, ?_, ?_⟩ <;> (intro d hd; simp at hd; subst hd; decide +kernel)
end Go.Proofs.Qxb6601748aDoor

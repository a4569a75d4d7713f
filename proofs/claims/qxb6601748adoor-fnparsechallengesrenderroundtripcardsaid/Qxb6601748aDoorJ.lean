/- Seat b6601748aD: the plain text of challenges, as render writes it. -/
import Derived.Test.Qxb6601748aDoorI
import Derived.Lib.AppendStr
namespace Go.Proofs.Qxb6601748aDoor
open Go.RowKit Go.PlainAid

/-- Is it a token? -/
def tokB (s : ByteArray) : Bool := decide (0 < s.size) && (List.range s.size).all fun k => tc (bt s k)
theorem tokB_iff (s : ByteArray) : tokB s = true ↔ Tok s := by
  simp [tokB, Tok]
theorem tokB_no {s : ByteArray} (h : ¬ Tok s) : tokB s = false := by
  cases e : tokB s with
  | false => rfl
  | true => exact absurd ((tokB_iff s).1 e) h

/-- The separator of challenges and of parameters; what stands behind a scheme; the sign between name and value. -/
def sepT (loose : Bool) : List UInt8 := if loose then [32, 44, 9, 44, 32] else [44, 32]
def aftT (loose : Bool) : List UInt8 := if loose then [32, 9, 32] else [32]
def eqT (loose : Bool) : List UInt8 := if loose then [32, 61, 32] else [61]
/-- A value's text. -/
def valT (bare : Bool) (v : ByteArray) : List UInt8 := if bare && tokB v then v.data.toList else qt v
/-- One parameter's text, without what stands ahead of it. -/
def oneP (loose bare : Bool) (p : Pm) : List UInt8 := p.1.data.toList ++ eqT loose ++ valT bare p.2
/-- The text of parameters. -/
def rP (loose bare : Bool) : Bool → List Pm → List UInt8
  | _, [] => []
  | first, p :: ps => (if first then aftT loose else sepT loose) ++ oneP loose bare p ++ rP loose bare false ps
/-- The text of challenges. -/
def rC (loose bare : Bool) : Bool → List Ch → List UInt8
  | _, [] => []
  | first, c :: cs => (if first then [] else sepT loose) ++ c.sch.data.toList ++ rP loose bare true c.ps ++ rC loose bare false cs

theorem rP_snoc (loose bare : Bool) (p : Pm) : ∀ (first : Bool) (ps : List Pm), rP loose bare first (ps ++ [p]) = rP loose bare first ps ++ ((if first && ps.isEmpty then aftT loose else sepT loose) ++ oneP loose bare p)
  | first, [] => by cases first <;> simp [rP]
  | first, q :: ps => by
    show _ ++ oneP loose bare q ++ rP loose bare false (ps ++ [p]) = (_ ++ oneP loose bare q ++ rP loose bare false ps) ++ _
    rw [rP_snoc loose bare p false ps]
    simp
theorem rC_snoc (loose bare : Bool) (c : Ch) : ∀ (first : Bool) (cs : List Ch), rC loose bare first (cs ++ [c]) = rC loose bare first cs ++ ((if first && cs.isEmpty then [] else sepT loose) ++ c.sch.data.toList ++ rP loose bare true c.ps)
  | first, [] => by cases first <;> simp [rC]
  | first, d :: cs => by
    show _ ++ d.sch.data.toList ++ rP loose bare true d.ps ++ rC loose bare false (cs ++ [c]) = (_ ++ d.sch.data.toList ++ rP loose bare true d.ps ++ rC loose bare false cs) ++ _
    rw [rC_snoc loose bare c false cs]
    simp

theorem sepT_len (loose : Bool) : (sepT loose).length ≤ 5 := by cases loose <;> decide
theorem aftT_len (loose : Bool) : (aftT loose).length ≤ 5 := by cases loose <;> decide
theorem eqT_len (loose : Bool) : (eqT loose).length ≤ 3 := by cases loose <;> decide
theorem valT_len (bare : Bool) (v : ByteArray) : (valT bare v).length ≤ 2 * v.size + 2 := by
  unfold valT
  split
  · simp; omega
  · have := escs_le v.data.toList
    simp [qt] at this ⊢
    omega
theorem oneP_len (loose bare : Bool) (p : Pm) : (oneP loose bare p).length ≤ p.1.size + 3 + (2 * p.2.size + 2) := by
  have h1 := eqT_len loose
  have h2 := valT_len bare p.2
  simp only [oneP, List.length_append, Array.length_toList, ByteArray.size_data]
  omega

/-- One append of a string to a row of bytes of the call's own. -/
theorem step_text {B n : Nat} {w0 w w' : World} {v v' : Value} {l : List UInt8} (s : ByteArray) (hb : Below B w0 w) (hB : B ≤ w.heap.size) (hn : n = l.length + s.size)
    (hown : w.ownsRow B 5 1 v l.length (Lib.byteCells l)) (hown' : w'.ownsRow B 5 1 v' n (Lib.byteCells l ++ Lib.strCells s)) (hg : w.grownBy w' v.ownBlock) :
    w'.ownsRow B 5 1 v' (l ++ s.data.toList).length (Lib.byteCells (l ++ s.data.toList)) ∧ Below B w0 w' := by
  subst hn
  refine ⟨?_, hb.grown hg hB (own_ge hown)⟩
  have e1 : (l ++ s.data.toList).length = l.length + s.size := by simp
  have e2 : Lib.byteCells (l ++ s.data.toList) = Lib.byteCells l ++ Lib.strCells s := by simp [Lib.byteCells, Lib.strCells]
  rw [e1, e2]
  exact hown'
end Go.Proofs.Qxb6601748aDoor

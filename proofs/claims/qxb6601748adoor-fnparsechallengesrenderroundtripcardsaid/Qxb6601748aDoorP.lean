/- Seat b6601748aD: a challenge's scheme, its parameters, their number. -/
import Derived.Test.Qxb6601748aDoorN
namespace Go.Proofs.Qxb6601748aDoor
open Go.RowKit Go.PlainAid Go.Maps Go.WideMaps

theorem zero9 (w : World) : (zeroValue 9).run Tryd.prog w = .ok (.string ⟨#[]⟩) w := by kernel_rfl

/-- The challenge as a value. -/
abbrev chV (s : ByteArray) (mb : Nat) : Value := .agg #[.string s, .map (some mb)]

set_option maxHeartbeats 400000 in
theorem scheme_any (s : ByteArray) (mb : Nat) (w : World) :
    Calls Tryd.prog 10 #[chV s mb] w fun e w' => e = .returned (.string s) ∧ Below w.heap.size w w' := by
  go_enter Tryd.func10, Tryd.ntmps10
  go_wp2
  go_ret
  exact ⟨rfl, (Below.refl _ w).alloc (Nat.le_refl _) _⟩

set_option maxHeartbeats 400000 in
theorem count_any (s : ByteArray) (mb n : Nat) (D : DataW Unit) (w : World) (hM : MapAt w mb n D) :
    Calls Tryd.prog 14 #[chV s mb] w fun e w' => e = .returned (.int .i64 (Maps.size D)) ∧ Below w.heap.size w w' := by
  have hl : ∀ (o : Obj) (ty : TypeId), (Builtin.len_ #[31] ty #[.map (some mb)]).run Tryd.prog (w.alloc o) = .ok (.int .i64 (Maps.size D)) (w.alloc o) := fun o ty => (hM.alloc o).len Tryd.underlying31 ty
  go_enter Tryd.func14, Tryd.ntmps14
  go_wp2
  go_ret
  exact ⟨rfl, (Below.refl _ w).alloc (Nat.le_refl _) _⟩

theorem look_run {w : World} {mb n : Nat} {D : DataW Unit} (hM : MapAt w mb n D) (nm x : ByteArray) (hn : nm.size ≤ maxLen) (hat : ∀ z, D.atKey (.string nm.data.toList) z = vL x) (hh : Maps.has D (.string nm.data.toList) = true) :
    (Instr.lookup 31 (.map (some mb)) (.string nm) true).run Tryd.prog w = .ok (.tuple #[.string x, .bool true]) w := by
  obtain ⟨v, ps, hr, hv⟩ := hM.look_ok Tryd.keyed9 Tryd.underlying31 (zero9 w) (plainElem_string (H := Unit) (s := ⟨#[]⟩) Tryd.underlying9 (by decide)) (keyOf_string_mk Tryd.underlying9 hn)
  rw [hat] at hv
  obtain ⟨s', rfl, hz, _⟩ := plainElem_string_inv Tryd.underlying9 hv
  simp only [Prod.mk.injEq] at hz
  have h1 := hz.1
  unfold vL at h1
  injection h1 with h2
  injection h2 with h3
  obtain rfl : x = s' := ByteArray.ext (Array.toList_inj.1 h3)
  rw [hr, hh]

set_option maxHeartbeats 400000 in
theorem param_any (s : ByteArray) (mb n : Nat) (D : DataW Unit) (nm x : ByteArray) (w : World) (hM : MapAt w mb n D) (hn : nm.size ≤ maxLen) (hat : ∀ z, D.atKey (.string nm.data.toList) z = vL x) (hh : Maps.has D (.string nm.data.toList) = true) :
    Calls Tryd.prog 13 #[chV s mb, .string nm] w fun e w' => e = .returned (.tuple #[.string x, .bool true]) ∧ Below w.heap.size w w' := by
  have hl : ∀ (o : Obj), (Instr.lookup 31 (.map (some mb)) (.string nm) true).run Tryd.prog (w.alloc o) = .ok (.tuple #[.string x, .bool true]) (w.alloc o) := fun o => look_run (hM.alloc o) nm x hn hat hh
  clear hat hh
  go_enter Tryd.func13, Tryd.ntmps13
  go_wp2
  go_ret2
  exact ⟨rfl, (Below.refl _ w).alloc (Nat.le_refl _) _⟩
end Go.Proofs.Qxb6601748aDoor

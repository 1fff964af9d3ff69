/-
  Seat oebp. The getters by their answers; the worlds from the call to the script's end.
-/
import Derived.Test.YoebpwApply
namespace Go.Proofs.Yoebpw
open Go.RowKit Go.Maps
set_option linter.unusedVariables false

/-! ### the getters, their answer by a name of its own -/
theorem get_at (p b n : Nat) (D : DataW Value) (s : ByteArray) (w : World) (c0 : w.cell? ⟨p, 0, none⟩ = some (.map (some b))) (hm : MapAt w b n D) (hs : s.size ≤ maxLen) (v : Value) (hv : (look D s.data.toList).getD .nilIface = v) :
    Calls Ebpg.prog 23 #[.pointer (some ⟨p, 0, none⟩), .string s] w fun e w' => e = .returned v ∧ w' = w := by subst hv; exact get_any p b n D s w c0 hm hs
theorem getSrc_at (p b n : Nat) (D : DataW Value) (s : ByteArray) (w : World) (c0 : w.cell? ⟨p, 0, none⟩ = some (.map (some b))) (hm : MapAt w b n D) (hs : s.size ≤ maxLen) (r : Option Addr) (hr : srcOf (look D s.data.toList) = r) :
    Calls Ebpg.prog 17 #[.pointer (some ⟨p, 0, none⟩), .string s] w fun e w' => e = .returned (.pointer r) ∧ w' = w := by subst hr; exact getSrc_any p b n D s w c0 hm hs
theorem getBin_at (p b n : Nat) (D : DataW Value) (s : ByteArray) (w : World) (c0 : w.cell? ⟨p, 0, none⟩ = some (.map (some b))) (hm : MapAt w b n D) (hs : s.size ≤ maxLen) (r : Option Addr) (hr : binOf (look D s.data.toList) = r) :
    Calls Ebpg.prog 18 #[.pointer (some ⟨p, 0, none⟩), .string s] w fun e w' => e = .returned (.pointer r) ∧ w' = w := by subst hr; exact getBin_any p b n D s w c0 hm hs

/-- What stands at a name: nothing, a source module, or a builtin module. -/
theorem MapAt.cases {w : World} {b n : Nat} {D : DataW Value} (h : MapAt w b n D) {s : ByteArray} (hs : s.size ≤ maxLen) :
    look D s.data.toList = none ∨ (∃ a, look D s.data.toList = some (.iface 36 (.pointer (some a)))) ∨ ∃ a, look D s.data.toList = some (.iface 38 (.pointer (some a))) := by
  cases hl : look D s.data.toList with
  | none => exact .inl rfl
  | some v =>
    obtain ⟨a, rfl | rfl⟩ := (h.lookup hs).2.2 v hl
    · exact .inr (.inl ⟨a, rfl⟩)
    · exact .inr (.inr ⟨a, rfl⟩)

theorem keeps_true (b n : Nat) (zs : List Int) (ss1 ss2 : List ByteArray) (us : Bool) (skip : ByteArray) : Keeps b n zs ss1 ss2 us skip (fun _ _ _ => True) :=
  ⟨fun _ _ _ _ _ _ => trivial, fun _ _ _ _ _ _ _ _ _ _ _ _ _ => trivial, fun _ _ _ _ _ _ _ _ _ _ _ => trivial⟩

theorem below_none {w w' : World} (h : w.grownBy w' none) : Below w.heap.size w w' :=
  ⟨h.os, h.tape, h.output, h.size, fun k hk => h.block k hk (by simp)⟩

/-- From the world of the call to the world behind the script: nothing old has turned. -/
theorem below_all {w w2 w3 w4 w5 w6 : World} {b : Nat} (g2 : w.grownBy w2 none) (g3 : w2.grownBy w3 none) (g4 : w3.grownBy w4 none) (g5 : w4.grownBy w5 none) (g6 : w5.grownBy w6 (some b)) (hb : w4.heap.size ≤ b) : Below w.heap.size w w6 := by
  have s2 := g2.size
  have s3 := g3.size
  have s4 := g4.size
  have s5 := g5.size
  exact ((((below_none g2).trans ((below_none g3).mono s2)).trans ((below_none g4).mono (by omega))).trans ((below_none g5).mono (by omega))).trans (below_of_grown g6 (by omega) (by omega))

end Go.Proofs.Yoebpw

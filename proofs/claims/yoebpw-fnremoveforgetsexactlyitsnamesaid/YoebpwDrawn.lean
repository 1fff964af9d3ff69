/-
  Seat oebp. Worlds that part in draws alone; Len by its answer.
-/
import Derived.Test.YoebpwPtr
import Derived.Deep.QuietTactic
import Derived.BigQuiet
namespace Go.Proofs.Yoebpw
open Go.RowKit Go.Maps

/-- Len, its answer by a name of its own. -/
theorem len_at (p b n : Nat) (D : DataW Value) (w : World) (c0 : w.cell? ⟨p, 0, none⟩ = some (.map (some b))) (hm : MapAt w b n D) (r : Int) (hr : (Maps.size D : Int) = r) :
    Calls Ebpg.prog 14 #[.pointer (some ⟨p, 0, none⟩)] w fun e w' => e = .returned (.int .i64 r) ∧ w' = w := by subst hr; exact len_any p b n D w c0 hm

/-- A world in which nothing but the count of draws has moved. -/
def Drawn (w w' : World) : Prop := ∃ m, w' = w.drewN m

theorem Drawn.refl (w : World) : Drawn w w := ⟨0, rfl⟩
theorem Drawn.more {w w' : World} (h : Drawn w w') (n : Nat) : Drawn w (w'.drewN n) := by
  obtain ⟨m, rfl⟩ := h
  exact ⟨m + n, by simp⟩
theorem Drawn.cell {w w' : World} (h : Drawn w w') (a : Addr) : w'.cell? a = w.cell? a := by
  obtain ⟨m, rfl⟩ := h
  rfl
theorem Drawn.map {w w' : World} {b n : Nat} {D : DataW Value} (h : Drawn w w') (hm : MapAt w b n D) : MapAt w' b n D := by
  obtain ⟨m, rfl⟩ := h
  exact hm

theorem Drawn.trans {w w' w'' : World} (h : Drawn w w') (k : Drawn w' w'') : Drawn w w'' := by
  obtain ⟨m, rfl⟩ := k
  exact h.more m

theorem Drawn.grown {w w' : World} (h : Drawn w w') (row : Option Nat) : w.grownBy w' row := by
  obtain ⟨m, rfl⟩ := h
  exact ⟨rfl, rfl, rfl, Nat.le_refl _, fun _ _ _ => rfl⟩

end Go.Proofs.Yoebpw

/-
  Seat oebp. A pointer against itself.
-/
import Derived.Test.YoebpwGet
namespace Go.Proofs.Yoebpw
open Go.RowKit Go.Maps

/-- 'p != p' of a pointer that is not nil. -/
theorem run_equalIn_self {P : Program} (d : Nat) {t e : TypeId} {j : TypeInfo} (h : P.underlying t = some (.pointer e)) (hte : P.info? e = some j) (a : Addr) (w : World) :
    (Op.equalIn (d + 1) t (.pointer (some a)) (.pointer (some a))).run P w = .ok true w := by
  simp [Op.equalIn, run_underlying h, sizeOf, typeInfo, hte, sameAddr]

theorem run_neq_self {P : Program} {t e : TypeId} {j : TypeInfo} (h : P.underlying t = some (.pointer e)) (hte : P.info? e = some j) (a : Addr) (w : World) :
    (binOp .neq t (.pointer (some a)) (.pointer (some a))).run P w = .ok (.bool false) w := by
  have e1 : (Op.equal t (.pointer (some a)) (.pointer (some a))).run P w = .ok true w := run_equalIn_self 9999 h hte a w
  simp only [binOp]
  simp [e1]

theorem neq36 (a : Addr) (w : World) : (binOp .neq 36 (.pointer (some a)) (.pointer (some a))).run Ebpg.prog w = .ok (.bool false) w := by
  obtain ⟨j, hj⟩ : ∃ j, Ebpg.prog.info? 59 = some j := Option.isSome_iff_exists.1 (by kernel_rfl)
  exact run_neq_self Ebpg.underlying36 hj a w
theorem neq38 (a : Addr) (w : World) : (binOp .neq 38 (.pointer (some a)) (.pointer (some a))).run Ebpg.prog w = .ok (.bool false) w := by
  obtain ⟨j, hj⟩ : ∃ j, Ebpg.prog.info? 62 = some j := Option.isSome_iff_exists.1 (by kernel_rfl)
  exact run_neq_self Ebpg.underlying38 hj a w

end Go.Proofs.Yoebpw

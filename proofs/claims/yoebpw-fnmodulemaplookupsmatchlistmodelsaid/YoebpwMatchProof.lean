/-
  Seat oebp. THE STATEMENT 'FnModuleMapLookupsMatchListModelSaid': the frame round the walk (after the kit's skeleton for laws over slices, turned to slices of strings).
-/
import Derived.Test.YoebpwRows
import Derived.Test.YoebpwMatchWalk
import Derived.Test.YoebpwOpen
import Derived.WalkKit
import Derived.ProofKit
import Derived.ShutString
import Derived.ChangeOld
import Derived.Below
namespace Go.Proofs.Yoebpw.lookupsMatch
open Go.ChangeShapes Go.WideShapes Go.ChangeAt Go.RowKit
open Go.ChangeMaps (open_string shut_string)
set_option linter.unusedVariables false

theorem own : ownKnob Ebpg.prog.godebug = none := by kernel_rfl
theorem laidOut : laidOutB Ebpg.prog = true := by kernel_rfl

set_option maxRecDepth 100000 in
theorem lifted (os : Os) (started : os.Started) (H : Type) (enc : TypeId × Value → H) :
    ReturnsInHanded {} Ebpg.checked os 3 .any (Rows.fnModuleMapLookupsMatchListModelSpec.pre6 enc Ebpg.prog Ebpg.f3 Rows.fnModuleMapLookupsMatchListModelRow.domain false) (Rows.fnModuleMapLookupsMatchListModelSpec.post enc Ebpg.prog Ebpg.f3 false true false false) := by
  refine returnsInHanded_of_change (C := Ebpg.checked) own started (by kernel_rfl) Ebpg.func3
    (ChangeSpec.witness6 (enc := enc) (C := Ebpg.checked) false ⟨#[], #[.slice none 0 0, .slice none 0 0, .slice none 0 0, .string ByteArray.empty], []⟩ 8 (by kernel_rfl) (by kernel_rfl) (by kernel_rfl) (by kernel_rfl)) ?_
  intro W base args ds gs before hval0 hW hcnd _
  have hval : ∀ (j : Nat) t v, Ebpg.f3.params[j]? = some t → args[j]? = some v → Value.okWide Ebpg.prog W .any base t v := hval0
  have hW' := hW
  obtain ⟨p, q, hA0, hV, rfl, hfz, hnd⟩ := hW
  have hA : DataW.TrodAll enc Ebpg.prog W 0 (fun _ => true) true Ebpg.f3.params.toList args.toList ds p := hA0
  rw [Ebpg.params3] at hA hval
  obtain ⟨v0, vs0, d0, ds0, p0, q0, hargs, rfl, rfl, h0, r0⟩ := trodAll_cons hA
  obtain ⟨v1, vs1, d1, ds1, p1, q1, rfl, rfl, rfl, h1, r1⟩ := trodAll_cons r0
  obtain ⟨v2, vs2, d2, ds2, p2, q2, rfl, rfl, rfl, h2, r2⟩ := trodAll_cons r1
  obtain ⟨v3, vs3, d3, ds3, p3, q3, rfl, rfl, rfl, h3, r3⟩ := trodAll_cons r2
  obtain ⟨rfl, rfl, rfl⟩ := trodAll_nil r3
  obtain rfl : args = #[v0, v1, v2, v3] := by cases args; simp_all
  obtain ⟨rfl, rfl⟩ := trodVars_none hV
  obtain ⟨a0, len0, cap0, rfl⟩ := okWide_slice Ebpg.underlying22 (hval 0 22 v0 rfl rfl)
  have k0 := h0
  have lt0 : ∀ x ∈ p0, x.block < W.heap.size := by obtain ⟨m, hm⟩ := k0; exact DataW.trod_lt m _ _ _ hm
  obtain ⟨z0, w0, u0⟩ := open_byts h0
  obtain ⟨a1, len1, cap1, rfl⟩ := okWide_slice Ebpg.underlying23 (hval 1 23 v1 rfl rfl)
  have k1 := h1
  have lt1 : ∀ x ∈ p1, x.block < W.heap.size := by obtain ⟨m, hm⟩ := k1; exact DataW.trod_lt m _ _ _ hm
  obtain ⟨z1, w1, u1⟩ := open_strs h1
  obtain ⟨a2, len2, cap2, rfl⟩ := okWide_slice Ebpg.underlying23 (hval 2 23 v2 rfl rfl)
  have k2 := h2
  have lt2 : ∀ x ∈ p2, x.block < W.heap.size := by obtain ⟨m, hm⟩ := k2; exact DataW.trod_lt m _ _ _ hm
  obtain ⟨z2, w2, u2⟩ := open_strs h2
  obtain ⟨a3, rfl, rfl, rfl, w3⟩ := open_string Ebpg.underlying9 (hval 3 9 v3 rfl rfl) h3
  clear hA0 hval0
  refine (match_walk a0 a1 a2 len0 cap0 len1 cap1 len2 cap2 z0 z1 z2 a3 W w0 w1 w2 w3 u0 u1 u2).mono fun e W' ⟨he, bel⟩ => ?_
  subst he
  exact ⟨_, rfl, _, _, _, [], _, [], hW', trodAll_mk1 (shut_bool Ebpg.underlying4 _), (trodAll_more (Below.trod laidOut (by kernel_rfl) (of_decide_eq_true (by kernel_rfl)) k0 bel lt0) (trodAll_more (Below.trod laidOut (by kernel_rfl) (of_decide_eq_true (by kernel_rfl)) k1 bel lt1) (trodAll_more (Below.trod laidOut (by kernel_rfl) (of_decide_eq_true (by kernel_rfl)) k2 bel lt2) (trodAll_more (shut_string Ebpg.underlying9 w3) trodAll_mk0)))), rfl, bel.frame _, fun h => by cases h⟩

theorem over : Rows.fnModuleMapLookupsMatchListModelRow.holds Ebpg.pinned (OpenSpec.ofChange Rows.fnModuleMapLookupsMatchListModelSpec) :=
  OpenClaim.holds_of_wide 3 Ebpg.f3 rfl rfl rfl rfl rfl rfl rfl ⟨rfl, rfl, rfl, rfl, rfl⟩ rfl rfl rfl rfl rfl (by kernel_rfl) Ebpg.func3 (by kernel_rfl)
    (of_decide_eq_true (by kernel_rfl)) (by unfold Func.isWrapper; first | (rw [if_pos (by decide +kernel)]; kernel_rfl) | (rw [if_neg (by decide +kernel)]; exact ⟨rfl, rfl⟩))
    (fun os started H enc _ => lifted os started H enc)

end Go.Proofs.Yoebpw.lookupsMatch

namespace Go.Proofs.Yoebpw
/-- THE STATEMENT. -/
theorem lookupsMatch_holds : Rows.FnModuleMapLookupsMatchListModelSaid := lookupsMatch.over
#print axioms lookupsMatch_holds
end Go.Proofs.Yoebpw

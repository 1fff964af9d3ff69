/-
  Seat oebp. zzB2CheckName: the module map and the list model answer alike at one name.
-/
import Derived.Test.YoebpwFind
import Derived.WalkSpells
namespace Go.Proofs.Yoebpw
open Go.RowKit Go.Maps
set_option linter.unusedVariables false

theorem quiet_of_drawn {P : Program} {f : FuncId} {args : Array Value} {w : World} {n : Nat} {v : Value}
    (h : Calls P f args (w.drewN n) fun e w' => e = .returned v ∧ Drawn (w.drewN n) w') : Calls P f args (w.drewN n) fun e w'' => e = .returned v ∧ ∃ m, w'' = w.drewN m :=
  h.mono fun _ _ ⟨he, m, hm⟩ => ⟨he, n + m, by rw [hm]; simp⟩

set_option maxHeartbeats 2000000 in
theorem check_any (p b m : Nat) (D : DataW Value) (a : Option Addr) (n c : Nat) (es : List Ent) (s : ByteArray) (w : World) (c0 : w.cell? ⟨p, 0, none⟩ = some (.map (some b))) (hm : MapAt w b m D) (hs : s.size ≤ maxLen) (h : Ents w a n es) (hn : n ≤ 4096)
    (hno : Misses es n s → look D s.data.toList = none) (hyes : ∀ i, i < n → entName es i = s → ∃ v, look D s.data.toList = some v ∧ Holds w v (entKind es i) (entPay es i)) (hpay : ∀ i, (entPay es i).size ≤ maxLen) :
    Calls Ebpg.prog 15 #[.pointer (some ⟨p, 0, none⟩), .slice a n c, .string s] w fun e w' => e = .returned (.bool true) ∧ Drawn w w' := by
  have heq60 := fun (w : World) (r : Option Nat) => Go.run_eql_map_nil (P := Ebpg.prog) w 60 9 83 r Ebpg.underlying60
  go_enter Ebpg.func15, Ebpg.ntmps15
  go_wp2_with fail
  refine (find_any a n c es s _ h hn).mono ?_
  rintro e w1 ⟨j, rfl, rfl, hj⟩
  rcases hj with ⟨rfl, hmis⟩ | ⟨i, hi, rfl, hnm⟩
  · have hl := hno hmis
    go_wp2_with fail
    refine (get_at p b m D s _ c0 hm hs .nilIface (by rw [hl]; rfl)).mono ?_
    rintro e w2 ⟨rfl, rfl⟩
    go_wp2_with fail
    refine (getBin_at p b m D s _ c0 hm hs none (by rw [hl]; rfl)).mono ?_
    rintro e w2 ⟨rfl, rfl⟩
    go_wp2_with fail
    refine (getSrc_at p b m D s _ c0 hm hs none (by rw [hl]; rfl)).mono ?_
    rintro e w2 ⟨rfl, rfl⟩
    go_wp2_with fail
    go_ret
    exact ⟨rfl, Drawn.refl _⟩
  · obtain ⟨v, hl, hol⟩ := hyes i hi hnm
    obtain ⟨g, rfl, hc⟩ := h.place hi
    obtain ⟨_, hck, hcp⟩ := hc i hi
    have hii : (i : Int) < (n : Int) := by omega
    have HL : Hid _ := hl
    clear hc h hno hyes hl
    rcases hol with ⟨hk, c1, d, cap, rfl, hc1, hd⟩ | ⟨hk, c1, rfl, hc1⟩
    · rw [hk] at hck
      have hcc := cell_of_one hc1
      have hpi := hpay i
      clear hk hc1 hpay
      go_wp2_with fail
      refine (get_at p b m D s _ c0 hm hs (.iface 36 (.pointer (some ⟨c1, 0, none⟩))) (by rw [HL.out]; rfl)).mono ?_
      rintro e w2 ⟨rfl, rfl⟩
      go_wp2_with fail
      refine (getBin_at p b m D s _ c0 hm hs none (by rw [HL.out]; rfl)).mono ?_
      rintro e w2 ⟨rfl, rfl⟩
      go_wp2_with fail
      refine (getSrc_at p b m D s _ c0 hm hs (some ⟨c1, 0, none⟩) (by rw [HL.out]; rfl)).mono ?_
      rintro e w2 ⟨rfl, rfl⟩
      go_wp2_with fail
      go_quiet ((go_at_call 32; exact quiet_of_drawn (same_any d cap (entPay es i) _ hpi (by exact hd))))
      go_wp2_with fail
      go_ret
      exact ⟨rfl, nq, rfl⟩
    · rw [hk] at hck
      have hcc := cell_of_one hc1
      clear hk hc1 hpay
      go_wp2_with fail
      refine (get_at p b m D s _ c0 hm hs (.iface 38 (.pointer (some ⟨c1, 0, none⟩))) (by rw [HL.out]; rfl)).mono ?_
      rintro e w2 ⟨rfl, rfl⟩
      go_wp2_with fail
      refine (getBin_at p b m D s _ c0 hm hs (some ⟨c1, 0, none⟩) (by rw [HL.out]; rfl)).mono ?_
      rintro e w2 ⟨rfl, rfl⟩
      go_wp2_with fail
      refine (getSrc_at p b m D s _ c0 hm hs none (by rw [HL.out]; rfl)).mono ?_
      rintro e w2 ⟨rfl, rfl⟩
      go_wp2_with fail
      go_ret
      exact ⟨rfl, Drawn.refl _⟩

end Go.Proofs.Yoebpw

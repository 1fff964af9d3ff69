/-
  Seat oebp. FnTypedLookupsStableUnderOtherNames: the walk.
-/
import Derived.Test.YoebpwPtr
import Derived.Test.YoebpwBytes24
namespace Go.Proofs.Yoebpw
open Go.RowKit Go.Maps
set_option linter.unusedVariables false

/-- A script that passes q over leaves what stands at q. -/
theorem keeps_look (b n : Nat) (zs : List Int) (ss1 ss2 : List ByteArray) (q : ByteArray) (l : Option Value) : Keeps b n zs ss1 ss2 true q (fun _ _ D => look D q.data.toList = l) := by
  have hne : ∀ {x : ByteArray}, ¬ Skips true q x → q.data.toList ≠ x.data.toList := fun h e => h ⟨rfl, (WideShapes.bytes_inj e).symm⟩
  refine ⟨fun _ _ _ _ _ h => h, fun k wr m D w1 v _ hs _ _ _ _ h => ?_, fun k wr m D w1 _ hs _ _ _ h => ?_⟩
  · show look (D.put (.string (opStr ss1 k).data.toList) (.held v)) q.data.toList = l
    rw [look_put_other (hne hs)]
    exact h
  · show look (D.del (.string (opStr ss1 k).data.toList)) q.data.toList = l
    rw [look_del_other (hne hs)]
    exact h

set_option maxHeartbeats 8000000 in
theorem typed_walk (a0 a1 a2 a3 a4 a5 : Option Addr) (n0 c0 n1 c1 n2 c2 n3 c3 n4 c4 n5 c5 : Nat) (z0 : List Int) (z1 z2 : List ByteArray) (z3 : List Int) (z4 z5 : List ByteArray) (q : ByteArray) (w : World)
    (h0 : Byts w w.heap.size a0 n0 z0) (h1 : Strs w w.heap.size a1 n1 z1) (h2 : Strs w w.heap.size a2 n2 z2) (h3 : Byts w w.heap.size a3 n3 z3) (h4 : Strs w w.heap.size a4 n4 z4) (h5 : Strs w w.heap.size a5 n5 z5) (hq : q.size ≤ maxLen)
    (l0 : a0 = none → n0 = 0) (l1 : a1 = none → n1 = 0) (l2 : a2 = none → n2 = 0) (l3 : a3 = none → n3 = 0) (l4 : a4 = none → n4 = 0) (l5 : a5 = none → n5 = 0) :
    Calls Ebpg.prog 6 #[.slice a0 n0 c0, .slice a1 n1 c1, .slice a2 n2 c2, .slice a3 n3 c3, .slice a4 n4 c4, .slice a5 n5 c5, .string q] w fun e w' => e = .returned (.bool true) ∧ Below w.heap.size w w' := by
  go_enter Ebpg.func6, Ebpg.ntmps6
  go_wp2_with fail
  refine (bytes24_any a0 a1 a2 a3 a4 a5 n0 c0 n1 c1 n2 c2 n3 c3 n4 c4 n5 c5 z1 z2 z4 z5 q _ h0.2.1 h1 h2 h3.2.1 h4 h5 hq).mono ?_
  rintro e w1 ⟨⟨r, rfl⟩, rfl⟩
  cases r with
  | false =>
    go_wp2
    go_ret
    exact ⟨rfl, Below.refl _ _⟩
  | true =>
    go_wp2_with fail
    refine (tooBig2_any a0 a1 a2 a3 a4 a5 n0 c0 n1 c1 n2 c2 n3 c3 n4 c4 n5 c5 z1 z2 z4 z5 q _ h0.2.1 h1 h2 h3.2.1 h4 h5 hq).mono ?_
    rintro e w1 ⟨r, rfl, rfl, hf⟩
    cases r with
    | true =>
      go_wp2
      go_ret
      exact ⟨rfl, Below.refl _ _⟩
    | false =>
      obtain ⟨⟨g0, g1, g2, _, _⟩, ⟨g3, g4, g5, _, _⟩⟩ := hf rfl
      clear hf
      go_wp2_with fail
      refine (cloneU8_any a0 n0 c0 z0 _ h0 (Nat.le_refl _) l0 g0).mono ?_
      rintro e v0 ⟨x0, d0, rfl, k0_0, hg0⟩
      have hs0 := hg0.size
      have k1_0n := (h1.below (below_none hg0)).mono hs0
      have k2_0n := (h2.below (below_none hg0)).mono hs0
      have k3_0n := (h3.below (below_none hg0)).mono hs0
      have k4_0n := (h4.below (below_none hg0)).mono hs0
      have k5_0n := (h5.below (below_none hg0)).mono hs0
      have hb0 := below_none hg0
      go_wp2_with fail
      refine (cloneStr_any a1 n1 c1 z1 _ k1_0n (Nat.le_refl _) l1 g1).mono ?_
      rintro e v1 ⟨x1, d1, rfl, k1_0, hg1⟩
      have hs1 := hg1.size
      have k0_1n := (k0_0.below (below_none hg1)).mono hs1
      have k2_1n := (k2_0n.below (below_none hg1)).mono hs1
      have k3_1n := (k3_0n.below (below_none hg1)).mono hs1
      have k4_1n := (k4_0n.below (below_none hg1)).mono hs1
      have k5_1n := (k5_0n.below (below_none hg1)).mono hs1
      have hb1 := hb0.trans ((below_none hg1).mono (by omega))
      clear k0_0 k1_0n k2_0n k3_0n k4_0n k5_0n
      go_wp2_with fail
      refine (cloneStr_any a2 n2 c2 z2 _ k2_1n (Nat.le_refl _) l2 g2).mono ?_
      rintro e v2 ⟨x2, d2, rfl, k2_0, hg2⟩
      have hs2 := hg2.size
      have k0_2n := (k0_1n.below (below_none hg2)).mono hs2
      have k1_2n := (k1_0.below (below_none hg2)).mono hs2
      have k3_2n := (k3_1n.below (below_none hg2)).mono hs2
      have k4_2n := (k4_1n.below (below_none hg2)).mono hs2
      have k5_2n := (k5_1n.below (below_none hg2)).mono hs2
      have hb2 := hb1.trans ((below_none hg2).mono (by omega))
      clear k0_1n k1_0 k2_1n k3_1n k4_1n k5_1n
      go_wp2_with fail
      refine (cloneU8_any a3 n3 c3 z3 _ k3_2n (Nat.le_refl _) l3 g3).mono ?_
      rintro e v3 ⟨x3, d3, rfl, k3_0, hg3⟩
      have hs3 := hg3.size
      have k0_3n := (k0_2n.below (below_none hg3)).mono hs3
      have k1_3n := (k1_2n.below (below_none hg3)).mono hs3
      have k2_3n := (k2_0.below (below_none hg3)).mono hs3
      have k4_3n := (k4_2n.below (below_none hg3)).mono hs3
      have k5_3n := (k5_2n.below (below_none hg3)).mono hs3
      have hb3 := hb2.trans ((below_none hg3).mono (by omega))
      clear k0_2n k1_2n k2_0 k3_2n k4_2n k5_2n
      go_wp2_with fail
      refine (cloneStr_any a4 n4 c4 z4 _ k4_3n (Nat.le_refl _) l4 g4).mono ?_
      rintro e v4 ⟨x4, d4, rfl, k4_0, hg4⟩
      have hs4 := hg4.size
      have k0_4n := (k0_3n.below (below_none hg4)).mono hs4
      have k1_4n := (k1_3n.below (below_none hg4)).mono hs4
      have k2_4n := (k2_3n.below (below_none hg4)).mono hs4
      have k3_4n := (k3_0.below (below_none hg4)).mono hs4
      have k5_4n := (k5_3n.below (below_none hg4)).mono hs4
      have hb4 := hb3.trans ((below_none hg4).mono (by omega))
      clear k0_3n k1_3n k2_3n k3_0 k4_3n k5_3n
      go_wp2_with fail
      refine (cloneStr_any a5 n5 c5 z5 _ k5_4n (Nat.le_refl _) l5 g5).mono ?_
      rintro e v5 ⟨x5, d5, rfl, k5_0, hg5⟩
      have hs5 := hg5.size
      have k0_5n := (k0_4n.below (below_none hg5)).mono hs5
      have k1_5n := (k1_4n.below (below_none hg5)).mono hs5
      have k2_5n := (k2_4n.below (below_none hg5)).mono hs5
      have k3_5n := (k3_4n.below (below_none hg5)).mono hs5
      have k4_5n := (k4_0.below (below_none hg5)).mono hs5
      have hb5 := hb4.trans ((below_none hg5).mono (by omega))
      clear k0_4n k1_4n k2_4n k3_4n k4_0 k5_4n
      go_wp2_with fail
      refine (new_any _).mono ?_
      rintro e w5 ⟨rfl, hm5, hp5, hg5⟩
      have e0 := k0_5n.below (below_none hg5)
      have e1 := k1_5n.below (below_none hg5)
      have e2 := k2_5n.below (below_none hg5)
      have e3 := k3_5n.below (below_none hg5)
      have e4 := k4_5n.below (below_none hg5)
      have e5 := k5_0.below (below_none hg5)
      have hs6 := hg5.size
      have hb6 := hb5.trans ((below_none hg5).mono (by omega))
      clear k0_5n k1_5n k2_5n k3_5n k4_5n k5_0
      go_wp2_with fail
      refine (apply_any (v5.heap.size + 1) v5.heap.size 0 (.map []) x0 x1 x2 n0 d0 n1 d1 n2 d2 z0 z1 z2 _ _ _ (fun _ _ _ => True) hp5 hm5 e0 e1 e2 (Nat.le_refl _) g0 (by omega) (keeps_true _ _ _ _ _ _ _) trivial).mono ?_
      rintro e w6 ⟨rfl, D, hm6, hg6, _⟩
      have hp6 := kept_block hm5 hg6 hp5
      have hbel6 := below_of_grown (B := v5.heap.size) hg6 (Nat.le_refl _) hs6
      have hb7 := hb6.trans (below_of_grown (B := w1.heap.size) hg6 (by omega) (by omega))
      have f3 := e3.below hbel6
      have f4 := e4.below hbel6
      have f5 := e5.below hbel6
      have cp := cell_of_one hp6
      clear e0 e1 e2 e3 e4 e5 hp5 hm5 hbel6
      have hv5 : w1.heap.size ≤ v5.heap.size := by omega
      have hw6 : v5.heap.size ≤ w6.heap.size := Nat.le_trans hs6 hg6.size
      clear hg0 hg1 hg2 hg3 hg4 hg5 hg6 hs0 hs1 hs2 hs3 hs4 hs5 hs6 hb0 hb1 hb2 hb3 hb4 hb5 hb6 h0 h1 h2 h3 h4 h5 l0 l1 l2 l3 l4 l5
      generalize v5.heap.size + 1 = p at *
      generalize v5.heap.size = b at *
      have t36 := fun (a : Addr) (w : World) => neq36 a w
      have t38 := fun (a : Addr) (w : World) => neq38 a w
      rcases hm6.cases hq with hl | ⟨a, hl⟩ | ⟨a, hl⟩
      · go_wp2_with fail
        refine (getSrc_at p b _ D q _ cp hm6 hq (none) (by rw [hl]; rfl)).mono ?_
        rintro e u1 ⟨rfl, rfl⟩
        go_wp2_with fail
        refine (getBin_at p b _ D q _ cp hm6 hq (none) (by rw [hl]; rfl)).mono ?_
        rintro e u2 ⟨rfl, rfl⟩
        go_wp2_with fail
        refine (getSrc_at p b _ D q _ cp hm6 hq (none) (by rw [hl]; rfl)).mono ?_
        rintro e u3 ⟨rfl, rfl⟩
        go_wp2_with fail
        refine (getBin_at p b _ D q _ cp hm6 hq (none) (by rw [hl]; rfl)).mono ?_
        rintro e u4 ⟨rfl, rfl⟩
        go_wp2_with fail
        refine (get_at p b _ D q _ cp hm6 hq (.nilIface) (by rw [hl]; rfl)).mono ?_
        rintro e u5 ⟨rfl, rfl⟩
        go_wp2_with fail
        refine (apply_any p b (0 + n0) D x3 x4 x5 n3 d3 n4 d4 n5 d5 z3 z4 z5 q true _ (fun _ _ D' => look D' q.data.toList = look D q.data.toList) hp6 hm6 f3 f4 f5 (Nat.le_refl _) g3 (by omega) (keeps_look _ _ _ _ _ _ _) rfl).mono ?_
        rintro e w8 ⟨rfl, D', hm8, hg8, hl8⟩
        have cp8 := cell_of_one (kept_block hm6 hg8 hp6)
        have hl' := hl8.trans hl
        have hb9 := hb7.trans (below_of_grown hg8 hv5 (Nat.le_trans hv5 hw6))
        go_wp2_with fail
        refine (getSrc_at p b _ D' q _ cp8 hm8 hq (none) (by rw [hl']; rfl)).mono ?_
        rintro e u6 ⟨rfl, rfl⟩
        go_wp2_with fail
        refine (getBin_at p b _ D' q _ cp8 hm8 hq (none) (by rw [hl']; rfl)).mono ?_
        rintro e u7 ⟨rfl, rfl⟩
        go_wp2_with fail
        refine (get_at p b _ D' q _ cp8 hm8 hq (.nilIface) (by rw [hl']; rfl)).mono ?_
        rintro e u8 ⟨rfl, rfl⟩
        go_wp2
        go_ret
        exact ⟨rfl, hb9⟩
      · go_wp2_with fail
        refine (getSrc_at p b _ D q _ cp hm6 hq (some a) (by rw [hl]; rfl)).mono ?_
        rintro e u1 ⟨rfl, rfl⟩
        go_wp2_with fail
        refine (getBin_at p b _ D q _ cp hm6 hq (none) (by rw [hl]; rfl)).mono ?_
        rintro e u2 ⟨rfl, rfl⟩
        go_wp2_with fail
        refine (getSrc_at p b _ D q _ cp hm6 hq (some a) (by rw [hl]; rfl)).mono ?_
        rintro e u3 ⟨rfl, rfl⟩
        go_wp2_with fail
        refine (getBin_at p b _ D q _ cp hm6 hq (none) (by rw [hl]; rfl)).mono ?_
        rintro e u4 ⟨rfl, rfl⟩
        go_wp2_with fail
        refine (get_at p b _ D q _ cp hm6 hq (.iface 36 (.pointer (some a))) (by rw [hl]; rfl)).mono ?_
        rintro e u5 ⟨rfl, rfl⟩
        go_wp2_with fail
        refine (apply_any p b (0 + n0) D x3 x4 x5 n3 d3 n4 d4 n5 d5 z3 z4 z5 q true _ (fun _ _ D' => look D' q.data.toList = look D q.data.toList) hp6 hm6 f3 f4 f5 (Nat.le_refl _) g3 (by omega) (keeps_look _ _ _ _ _ _ _) rfl).mono ?_
        rintro e w8 ⟨rfl, D', hm8, hg8, hl8⟩
        have cp8 := cell_of_one (kept_block hm6 hg8 hp6)
        have hl' := hl8.trans hl
        have hb9 := hb7.trans (below_of_grown hg8 hv5 (Nat.le_trans hv5 hw6))
        go_wp2_with fail
        refine (getSrc_at p b _ D' q _ cp8 hm8 hq (some a) (by rw [hl']; rfl)).mono ?_
        rintro e u6 ⟨rfl, rfl⟩
        go_wp2_with fail
        refine (getBin_at p b _ D' q _ cp8 hm8 hq (none) (by rw [hl']; rfl)).mono ?_
        rintro e u7 ⟨rfl, rfl⟩
        go_wp2_with fail
        refine (get_at p b _ D' q _ cp8 hm8 hq (.iface 36 (.pointer (some a))) (by rw [hl']; rfl)).mono ?_
        rintro e u8 ⟨rfl, rfl⟩
        go_wp2
        go_ret
        exact ⟨rfl, hb9⟩
      · go_wp2_with fail
        refine (getSrc_at p b _ D q _ cp hm6 hq (none) (by rw [hl]; rfl)).mono ?_
        rintro e u1 ⟨rfl, rfl⟩
        go_wp2_with fail
        refine (getBin_at p b _ D q _ cp hm6 hq (some a) (by rw [hl]; rfl)).mono ?_
        rintro e u2 ⟨rfl, rfl⟩
        go_wp2_with fail
        refine (getSrc_at p b _ D q _ cp hm6 hq (none) (by rw [hl]; rfl)).mono ?_
        rintro e u3 ⟨rfl, rfl⟩
        go_wp2_with fail
        refine (getBin_at p b _ D q _ cp hm6 hq (some a) (by rw [hl]; rfl)).mono ?_
        rintro e u4 ⟨rfl, rfl⟩
        go_wp2_with fail
        refine (get_at p b _ D q _ cp hm6 hq (.iface 38 (.pointer (some a))) (by rw [hl]; rfl)).mono ?_
        rintro e u5 ⟨rfl, rfl⟩
        go_wp2_with fail
        refine (apply_any p b (0 + n0) D x3 x4 x5 n3 d3 n4 d4 n5 d5 z3 z4 z5 q true _ (fun _ _ D' => look D' q.data.toList = look D q.data.toList) hp6 hm6 f3 f4 f5 (Nat.le_refl _) g3 (by omega) (keeps_look _ _ _ _ _ _ _) rfl).mono ?_
        rintro e w8 ⟨rfl, D', hm8, hg8, hl8⟩
        have cp8 := cell_of_one (kept_block hm6 hg8 hp6)
        have hl' := hl8.trans hl
        have hb9 := hb7.trans (below_of_grown hg8 hv5 (Nat.le_trans hv5 hw6))
        go_wp2_with fail
        refine (getSrc_at p b _ D' q _ cp8 hm8 hq (none) (by rw [hl']; rfl)).mono ?_
        rintro e u6 ⟨rfl, rfl⟩
        go_wp2_with fail
        refine (getBin_at p b _ D' q _ cp8 hm8 hq (some a) (by rw [hl']; rfl)).mono ?_
        rintro e u7 ⟨rfl, rfl⟩
        go_wp2_with fail
        refine (get_at p b _ D' q _ cp8 hm8 hq (.iface 38 (.pointer (some a))) (by rw [hl']; rfl)).mono ?_
        rintro e u8 ⟨rfl, rfl⟩
        go_wp2
        go_ret
        exact ⟨rfl, hb9⟩

end Go.Proofs.Yoebpw

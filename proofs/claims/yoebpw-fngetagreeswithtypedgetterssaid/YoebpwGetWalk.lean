/-
  Seat oebp. FnGetAgreesWithTypedGetters: the walk.
-/
import Derived.Test.YoebpwGet
import Derived.Test.YoebpwBytes22
namespace Go.Proofs.Yoebpw
open Go.RowKit Go.Maps
set_option linter.unusedVariables false

set_option maxHeartbeats 4000000 in
theorem getAgrees_walk (a0 a1 a2 : Option Addr) (n0 c0 n1 c1 n2 c2 : Nat) (zs : List Int) (ss1 ss2 : List ByteArray) (q : ByteArray) (w : World)
    (hz : Byts w w.heap.size a0 n0 zs) (h1 : Strs w w.heap.size a1 n1 ss1) (h2 : Strs w w.heap.size a2 n2 ss2) (hq : q.size ≤ maxLen) (l0 : a0 = none → n0 = 0) (l1 : a1 = none → n1 = 0) (l2 : a2 = none → n2 = 0) :
    Calls Ebpg.prog 5 #[.slice a0 n0 c0, .slice a1 n1 c1, .slice a2 n2 c2, .string q] w fun e w' => e = .returned (.bool true) ∧ Below w.heap.size w w' := by
  go_enter Ebpg.func5, Ebpg.ntmps5
  go_wp2_with fail
  refine (bytes22_any a0 a1 a2 n0 c0 n1 c1 n2 c2 ss1 ss2 q _ hz.2.1 h1 h2 hq).mono ?_
  rintro e w1 ⟨⟨r, rfl⟩, rfl⟩
  cases r with
  | false =>
    go_wp2
    go_ret
    exact ⟨rfl, Below.refl _ _⟩
  | true =>
    go_wp2_with fail
    refine (tooBig1_any a0 a1 a2 n0 c0 n1 c1 n2 c2 ss1 ss2 q _ hz.2.1 h1 h2 hq).mono ?_
    rintro e w1 ⟨r, rfl, rfl, hf⟩
    cases r with
    | true =>
      go_wp2
      go_ret
      exact ⟨rfl, Below.refl _ _⟩
    | false =>
      obtain ⟨g0, g1, g2, _, _⟩ := hf rfl
      clear hf
      go_wp2_with fail
      refine (cloneU8_any a0 n0 c0 zs _ hz (Nat.le_refl _) l0 g0).mono ?_
      rintro e w2 ⟨x0, d0, rfl, hz2, hg2⟩
      have hs2 := hg2.size
      have h1b := (h1.below (below_none hg2)).mono hs2
      have h2b := (h2.below (below_none hg2)).mono hs2
      go_wp2_with fail
      refine (cloneStr_any a1 n1 c1 ss1 _ h1b (Nat.le_refl _) l1 g1).mono ?_
      rintro e w3 ⟨x1, d1, rfl, h13, hg3⟩
      have hs3 := hg3.size
      have h2c := (h2b.below (below_none hg3)).mono hs3
      have hz3 := (hz2.below (below_none hg3)).mono hs3
      go_wp2_with fail
      refine (cloneStr_any a2 n2 c2 ss2 _ h2c (Nat.le_refl _) l2 g2).mono ?_
      rintro e w4 ⟨x2, d2, rfl, h24, hg4⟩
      have hs4 := hg4.size
      have hz4 := (hz3.below (below_none hg4)).mono hs4
      have h14 := (h13.below (below_none hg4)).mono hs4
      go_wp2_with fail
      refine (new_any _).mono ?_
      rintro e w5 ⟨rfl, hm5, hp5, hg5⟩
      have hz5 := hz4.below (below_none hg5)
      have h15 := h14.below (below_none hg5)
      have h25 := h24.below (below_none hg5)
      clear h1b h2b h2c hz2 hz3 h13 hz4 h14 h24
      go_wp2_with fail
      refine (apply_any (w4.heap.size + 1) w4.heap.size 0 (.map []) x0 x1 x2 n0 d0 n1 d1 n2 d2 zs ss1 ss2 _ _ _ (fun _ _ _ => True) hp5 hm5 hz5 h15 h25 (Nat.le_refl _) g0 (by omega) (keeps_true _ _ _ _ _ _ _) trivial).mono ?_
      rintro e w6 ⟨rfl, D, hm6, hg6, _⟩
      have hbel := below_all hg2 hg3 hg4 hg5 hg6 (Nat.le_refl _)
      have h16 := h15.below (below_of_grown hg6 (Nat.le_refl _) hg5.size)
      have cp := cell_of_one (kept_block hm5 hg6 hp5)
      have m1 := h1.2.1
      have hnm := fun i => opStr_le h1.2.2.1 i
      generalize w4.heap.size + 1 = p at *
      generalize w4.heap.size = b at *
      clear hz5 h15 h25 hp5 hm5 hg2 hg3 hg4 hg5 hg6 hs2 hs3 hs4
      unfold maxLen at m1
      go_wp2_with fail
      go_loop [10] (fun i => ∃ k : Nat, k ≤ n1 + 1 ∧ i = .int .i64 k) (fun i => n1 + 1 - (intOf i).toNat)
      case atStart => exact ⟨0, Nat.zero_le _, rfl⟩
      case round =>
        obtain ⟨k, hk, rfl⟩ := hrel
        by_cases hlt : k < n1
        · obtain ⟨b1, o1, rfl, _, hc⟩ := h16.place hlt
          have hck := hc k hlt
          have hnk := hnm k
          clear hc h16 hnm
          rcases hm6.cases hnk with hl | ⟨a, hl⟩ | ⟨a, hl⟩
          · go_wp2_with fail
            refine (get_at p b _ D (opStr ss1 k) _ cp hm6 hnk (.nilIface) (by rw [hl]; rfl)).mono ?_
            rintro e w7 ⟨rfl, rfl⟩
            go_wp2_with fail
            refine (getBin_at p b _ D (opStr ss1 k) _ cp hm6 hnk (none) (by rw [hl]; rfl)).mono ?_
            rintro e w8 ⟨rfl, rfl⟩
            go_wp2_with fail
            refine (getSrc_at p b _ D (opStr ss1 k) _ cp hm6 hnk (none) (by rw [hl]; rfl)).mono ?_
            rintro e w9 ⟨rfl, rfl⟩
            go_wp2_with fail
            go_round
            case rel => exact ⟨k + 1, by omega, by go_num⟩
            case measure => (simp [intOf]) <;> omega
          · go_wp2_with fail
            refine (get_at p b _ D (opStr ss1 k) _ cp hm6 hnk (.iface 36 (.pointer (some a))) (by rw [hl]; rfl)).mono ?_
            rintro e w7 ⟨rfl, rfl⟩
            go_wp2_with fail
            refine (getBin_at p b _ D (opStr ss1 k) _ cp hm6 hnk (none) (by rw [hl]; rfl)).mono ?_
            rintro e w8 ⟨rfl, rfl⟩
            go_wp2_with fail
            refine (getSrc_at p b _ D (opStr ss1 k) _ cp hm6 hnk (some a) (by rw [hl]; rfl)).mono ?_
            rintro e w9 ⟨rfl, rfl⟩
            go_wp2_with fail
            go_round
            case rel => exact ⟨k + 1, by omega, by go_num⟩
            case measure => (simp [intOf]) <;> omega
          · go_wp2_with fail
            refine (get_at p b _ D (opStr ss1 k) _ cp hm6 hnk (.iface 38 (.pointer (some a))) (by rw [hl]; rfl)).mono ?_
            rintro e w7 ⟨rfl, rfl⟩
            go_wp2_with fail
            refine (getBin_at p b _ D (opStr ss1 k) _ cp hm6 hnk (some a) (by rw [hl]; rfl)).mono ?_
            rintro e w8 ⟨rfl, rfl⟩
            go_wp2_with fail
            refine (getSrc_at p b _ D (opStr ss1 k) _ cp hm6 hnk (none) (by rw [hl]; rfl)).mono ?_
            rintro e w9 ⟨rfl, rfl⟩
            go_wp2_with fail
            go_round
            case rel => exact ⟨k + 1, by omega, by go_num⟩
            case measure => (simp [intOf]) <;> omega
        · by_cases hke : k = n1
          · subst hke
            rcases hm6.cases hq with hl | ⟨a, hl⟩ | ⟨a, hl⟩
            · go_wp2_with fail
              refine (get_at p b _ D (q) _ cp hm6 hq (.nilIface) (by rw [hl]; rfl)).mono ?_
              rintro e w7 ⟨rfl, rfl⟩
              go_wp2_with fail
              refine (getBin_at p b _ D (q) _ cp hm6 hq (none) (by rw [hl]; rfl)).mono ?_
              rintro e w8 ⟨rfl, rfl⟩
              go_wp2_with fail
              refine (getSrc_at p b _ D (q) _ cp hm6 hq (none) (by rw [hl]; rfl)).mono ?_
              rintro e w9 ⟨rfl, rfl⟩
              go_wp2_with fail
              go_round
              case rel => exact ⟨k + 1, by omega, by go_num⟩
              case measure => (simp [intOf]) <;> omega
            · go_wp2_with fail
              refine (get_at p b _ D (q) _ cp hm6 hq (.iface 36 (.pointer (some a))) (by rw [hl]; rfl)).mono ?_
              rintro e w7 ⟨rfl, rfl⟩
              go_wp2_with fail
              refine (getBin_at p b _ D (q) _ cp hm6 hq (none) (by rw [hl]; rfl)).mono ?_
              rintro e w8 ⟨rfl, rfl⟩
              go_wp2_with fail
              refine (getSrc_at p b _ D (q) _ cp hm6 hq (some a) (by rw [hl]; rfl)).mono ?_
              rintro e w9 ⟨rfl, rfl⟩
              go_wp2_with fail
              go_round
              case rel => exact ⟨k + 1, by omega, by go_num⟩
              case measure => (simp [intOf]) <;> omega
            · go_wp2_with fail
              refine (get_at p b _ D (q) _ cp hm6 hq (.iface 38 (.pointer (some a))) (by rw [hl]; rfl)).mono ?_
              rintro e w7 ⟨rfl, rfl⟩
              go_wp2_with fail
              refine (getBin_at p b _ D (q) _ cp hm6 hq (some a) (by rw [hl]; rfl)).mono ?_
              rintro e w8 ⟨rfl, rfl⟩
              go_wp2_with fail
              refine (getSrc_at p b _ D (q) _ cp hm6 hq (none) (by rw [hl]; rfl)).mono ?_
              rintro e w9 ⟨rfl, rfl⟩
              go_wp2_with fail
              go_round
              case rel => exact ⟨k + 1, by omega, by go_num⟩
              case measure => (simp [intOf]) <;> omega
          · obtain rfl : k = n1 + 1 := by omega
            go_wp2
            go_ret
            exact ⟨rfl, hbel⟩

end Go.Proofs.Yoebpw

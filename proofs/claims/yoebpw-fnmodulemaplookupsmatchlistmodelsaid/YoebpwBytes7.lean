/-
  Seat oebp. The bound laid ahead of the law: function 7: it answers, and touches nothing.
-/
import Derived.Test.YoebpwSize
namespace Go.Proofs.Yoebpw
open Go.RowKit Go.Maps
set_option linter.unusedVariables false

set_option maxHeartbeats 2000000 in
theorem bytes7_any (a0 a1 a2 : Option Addr) (n0 c0 n1 c1 n2 c2 : Nat) (ss1 ss2 : List ByteArray) (q : ByteArray) (w : World) {B : Nat} (h0 : n0 ≤ maxLen) (h1 : Strs w B a1 n1 ss1) (h2 : Strs w B a2 n2 ss2) (hq : q.size ≤ maxLen) :
    Calls Ebpg.prog 7 #[.slice a0 n0 c0, .slice a1 n1 c1, .slice a2 n2 c2, .string q] w fun e w' => SomeBool e ∧ w' = w := by
  have m1 := h1.2.1
  have m2 := h2.2.1
  have hs1 := fun i => opStr_le h1.2.2.1 i
  have hs2 := fun i => opStr_le h2.2.2.1 i
  unfold maxLen at h0 m1 m2 hs1 hs2 hq
  by_cases g0 : 1048576 < (n0 : Int)
  · go_enter Ebpg.func7, Ebpg.ntmps7
    go_wp2
    go_ret
    exact ⟨⟨false, rfl⟩, rfl⟩
  by_cases g1 : 1048576 < (n1 : Int)
  · go_enter Ebpg.func7, Ebpg.ntmps7
    go_wp2
    go_ret
    exact ⟨⟨false, rfl⟩, rfl⟩
  by_cases g2 : 1048576 < (n0 : Int) + (n1 : Int)
  · go_enter Ebpg.func7, Ebpg.ntmps7
    go_wp2
    go_ret
    exact ⟨⟨false, rfl⟩, rfl⟩
  go_enter Ebpg.func7, Ebpg.ntmps7
  go_wp2
  go_loop [9, 10] (fun t i => ∃ k : Nat, ∃ T : Int, k ≤ n1 ∧ i = .int .i64 k ∧ t = .int .i64 T ∧ 0 ≤ T ∧ T ≤ 1048576) (fun _ i => n1 - (intOf i).toNat)
  case atStart => exact ⟨0, _, Nat.zero_le _, rfl, rfl, by omega, by omega⟩
  case round =>
    obtain ⟨k, T, hk, rfl, rfl, hT0, hT1⟩ := hrel
    by_cases hlt : k < n1
    · obtain ⟨b, off, rfl, _, hc⟩ := h1.place hlt
      have hck := hc k hlt
      have hsk := hs1 k
      clear hc hs1 hs2 h1 h2
      by_cases hgt : 1048576 < ((opStr ss1 k).size : Int)
      · go_wp2
        go_ret
        exact ⟨⟨false, rfl⟩, rfl⟩
      by_cases hgt2 : 1048576 < T + ((opStr ss1 k).size : Int)
      · go_wp2
        go_ret
        exact ⟨⟨false, rfl⟩, rfl⟩
      go_wp2
      go_round
      case rel => exact ⟨k + 1, _, by omega, by go_num, rfl, by omega, by omega⟩
      case measure => simp [intOf]; omega
    · obtain rfl : k = n1 := by omega
      by_cases g3 : 1048576 < (n2 : Int)
      · go_wp2
        go_ret
        exact ⟨⟨false, rfl⟩, rfl⟩
      by_cases g4 : 1048576 < T + (n2 : Int)
      · go_wp2
        go_ret
        exact ⟨⟨false, rfl⟩, rfl⟩
      go_wp2
      go_loop [9, 11] (fun t i => ∃ j : Nat, ∃ T : Int, j ≤ n2 ∧ i = .int .i64 j ∧ t = .int .i64 T ∧ 0 ≤ T ∧ T ≤ 1048576) (fun _ i => n2 - (intOf i).toNat)
      case atStart => exact ⟨0, _, Nat.zero_le _, rfl, rfl, by omega, by omega⟩
      case round =>
        obtain ⟨j, T, hj, rfl, rfl, hT0, hT1⟩ := hrel
        by_cases hlt2 : j < n2
        · obtain ⟨b, off, rfl, _, hc⟩ := h2.place hlt2
          have hck := hc j hlt2
          have hsk := hs2 j
          clear hc hs1 hs2 h1 h2
          by_cases hgt : 1048576 < ((opStr ss2 j).size : Int)
          · go_wp2
            go_ret
            exact ⟨⟨false, rfl⟩, rfl⟩
          by_cases hgt2 : 1048576 < T + ((opStr ss2 j).size : Int)
          · go_wp2
            go_ret
            exact ⟨⟨false, rfl⟩, rfl⟩
          go_wp2
          go_round
          case rel => exact ⟨j + 1, _, by omega, by go_num, rfl, by omega, by omega⟩
          case measure => simp [intOf]; omega
        · obtain rfl : j = n2 := by omega
          by_cases g5 : 1048576 < (q.size : Int)
          · go_wp2
            go_ret
            exact ⟨⟨false, rfl⟩, rfl⟩
          by_cases g6 : 1048576 < T + (q.size : Int)
          · go_wp2
            go_ret
            exact ⟨⟨false, rfl⟩, rfl⟩
          go_wp2
          go_ret
          exact ⟨⟨true, rfl⟩, rfl⟩

end Go.Proofs.Yoebpw

/-
  Seat oebp. The bound laid ahead of the law: function 24: it answers, and touches nothing.
-/
import Derived.Test.YoebpwSize
namespace Go.Proofs.Yoebpw
open Go.RowKit Go.Maps
set_option linter.unusedVariables false

set_option maxHeartbeats 4000000 in
theorem bytes24_any (a0 a1 a2 a3 a4 a5 : Option Addr) (n0 c0 n1 c1 n2 c2 n3 c3 n4 c4 n5 c5 : Nat) (ss1 ss2 ss4 ss5 : List ByteArray) (q : ByteArray) (w : World) {B : Nat} (h0 : n0 ≤ maxLen) (h1 : Strs w B a1 n1 ss1) (h2 : Strs w B a2 n2 ss2)
    (h3 : n3 ≤ maxLen) (h4 : Strs w B a4 n4 ss4) (h5 : Strs w B a5 n5 ss5) (hq : q.size ≤ maxLen) :
    Calls Ebpg.prog 24 #[.slice a0 n0 c0, .slice a1 n1 c1, .slice a2 n2 c2, .slice a3 n3 c3, .slice a4 n4 c4, .slice a5 n5 c5, .string q] w fun e w' => SomeBool e ∧ w' = w := by
  have m1 := h1.2.1
  have m2 := h2.2.1
  have m4 := h4.2.1
  have m5 := h5.2.1
  have hs1 := fun i => opStr_le h1.2.2.1 i
  have hs2 := fun i => opStr_le h2.2.2.1 i
  have hs4 := fun i => opStr_le h4.2.2.1 i
  have hs5 := fun i => opStr_le h5.2.2.1 i
  unfold maxLen at h0 h3 m1 m2 m4 m5 hs1 hs2 hs4 hs5 hq
  by_cases g0 : 1048576 < (n0 : Int)
  · go_enter Ebpg.func24, Ebpg.ntmps24
    go_wp2
    go_ret
    exact ⟨⟨false, rfl⟩, rfl⟩
  by_cases g1 : 1048576 < (n1 : Int)
  · go_enter Ebpg.func24, Ebpg.ntmps24
    go_wp2
    go_ret
    exact ⟨⟨false, rfl⟩, rfl⟩
  by_cases g2 : 1048576 < (n0 : Int) + (n1 : Int)
  · go_enter Ebpg.func24, Ebpg.ntmps24
    go_wp2
    go_ret
    exact ⟨⟨false, rfl⟩, rfl⟩
  go_enter Ebpg.func24, Ebpg.ntmps24
  go_wp2
  go_loop [15, 16] (fun t i => ∃ k : Nat, ∃ T : Int, k ≤ n1 ∧ i = .int .i64 k ∧ t = .int .i64 T ∧ 0 ≤ T ∧ T ≤ 1048576) (fun _ i => n1 - (intOf i).toNat)
  case atStart => exact ⟨0, _, Nat.zero_le _, rfl, rfl, by omega, by omega⟩
  case round =>
    obtain ⟨k1, T1, hk1, rfl, rfl, hT1, hU1⟩ := hrel
    by_cases hlt1 : k1 < n1
    · obtain ⟨b, off, rfl, _, hc⟩ := h1.place hlt1
      have hck := hc k1 hlt1
      have hsk := hs1 k1
      clear hc hs1 hs2 hs4 hs5 h1 h2 h4 h5
      by_cases hgt : 1048576 < ((opStr ss1 k1).size : Int)
      · go_wp2
        go_ret
        exact ⟨⟨false, rfl⟩, rfl⟩
      by_cases hgt2 : 1048576 < T1 + ((opStr ss1 k1).size : Int)
      · go_wp2
        go_ret
        exact ⟨⟨false, rfl⟩, rfl⟩
      go_wp2
      go_round
      case rel => exact ⟨k1 + 1, _, by omega, by go_num, rfl, by omega, by omega⟩
      case measure => simp [intOf]; omega
    · obtain rfl : k1 = n1 := by omega
      by_cases g3 : 1048576 < (n2 : Int)
      · go_wp2
        go_ret
        exact ⟨⟨false, rfl⟩, rfl⟩
      by_cases g4 : 1048576 < T1 + (n2 : Int)
      · go_wp2
        go_ret
        exact ⟨⟨false, rfl⟩, rfl⟩
      go_wp2
      go_loop [15, 17] (fun t i => ∃ k : Nat, ∃ T : Int, k ≤ n2 ∧ i = .int .i64 k ∧ t = .int .i64 T ∧ 0 ≤ T ∧ T ≤ 1048576) (fun _ i => n2 - (intOf i).toNat)
      case atStart => exact ⟨0, _, Nat.zero_le _, rfl, rfl, by omega, by omega⟩
      case round =>
        obtain ⟨k2, T2, hk2, rfl, rfl, hT2, hU2⟩ := hrel
        by_cases hlt2 : k2 < n2
        · obtain ⟨b, off, rfl, _, hc⟩ := h2.place hlt2
          have hck := hc k2 hlt2
          have hsk := hs2 k2
          clear hc hs1 hs2 hs4 hs5 h1 h2 h4 h5
          by_cases hgt : 1048576 < ((opStr ss2 k2).size : Int)
          · go_wp2
            go_ret
            exact ⟨⟨false, rfl⟩, rfl⟩
          by_cases hgt2 : 1048576 < T2 + ((opStr ss2 k2).size : Int)
          · go_wp2
            go_ret
            exact ⟨⟨false, rfl⟩, rfl⟩
          go_wp2
          go_round
          case rel => exact ⟨k2 + 1, _, by omega, by go_num, rfl, by omega, by omega⟩
          case measure => simp [intOf]; omega
        · obtain rfl : k2 = n2 := by omega
          by_cases g5 : 1048576 < (n3 : Int)
          · go_wp2
            go_ret
            exact ⟨⟨false, rfl⟩, rfl⟩
          by_cases g6 : 1048576 < T2 + (n3 : Int)
          · go_wp2
            go_ret
            exact ⟨⟨false, rfl⟩, rfl⟩
          by_cases g7 : 1048576 < (n4 : Int)
          · go_wp2
            go_ret
            exact ⟨⟨false, rfl⟩, rfl⟩
          by_cases g8 : 1048576 < T2 + (n3 : Int) + (n4 : Int)
          · go_wp2
            go_ret
            exact ⟨⟨false, rfl⟩, rfl⟩
          go_wp2
          go_loop [15, 18] (fun t i => ∃ k : Nat, ∃ T : Int, k ≤ n4 ∧ i = .int .i64 k ∧ t = .int .i64 T ∧ 0 ≤ T ∧ T ≤ 1048576) (fun _ i => n4 - (intOf i).toNat)
          case atStart => exact ⟨0, _, Nat.zero_le _, rfl, rfl, by omega, by omega⟩
          case round =>
            obtain ⟨k4, T4, hk4, rfl, rfl, hT4, hU4⟩ := hrel
            by_cases hlt4 : k4 < n4
            · obtain ⟨b, off, rfl, _, hc⟩ := h4.place hlt4
              have hck := hc k4 hlt4
              have hsk := hs4 k4
              clear hc hs1 hs2 hs4 hs5 h1 h2 h4 h5
              by_cases hgt : 1048576 < ((opStr ss4 k4).size : Int)
              · go_wp2
                go_ret
                exact ⟨⟨false, rfl⟩, rfl⟩
              by_cases hgt2 : 1048576 < T4 + ((opStr ss4 k4).size : Int)
              · go_wp2
                go_ret
                exact ⟨⟨false, rfl⟩, rfl⟩
              go_wp2
              go_round
              case rel => exact ⟨k4 + 1, _, by omega, by go_num, rfl, by omega, by omega⟩
              case measure => simp [intOf]; omega
            · obtain rfl : k4 = n4 := by omega
              by_cases g9 : 1048576 < (n5 : Int)
              · go_wp2
                go_ret
                exact ⟨⟨false, rfl⟩, rfl⟩
              by_cases g10 : 1048576 < T4 + (n5 : Int)
              · go_wp2
                go_ret
                exact ⟨⟨false, rfl⟩, rfl⟩
              go_wp2
              go_loop [15, 19] (fun t i => ∃ k : Nat, ∃ T : Int, k ≤ n5 ∧ i = .int .i64 k ∧ t = .int .i64 T ∧ 0 ≤ T ∧ T ≤ 1048576) (fun _ i => n5 - (intOf i).toNat)
              case atStart => exact ⟨0, _, Nat.zero_le _, rfl, rfl, by omega, by omega⟩
              case round =>
                obtain ⟨k5, T5, hk5, rfl, rfl, hT5, hU5⟩ := hrel
                by_cases hlt5 : k5 < n5
                · obtain ⟨b, off, rfl, _, hc⟩ := h5.place hlt5
                  have hck := hc k5 hlt5
                  have hsk := hs5 k5
                  clear hc hs1 hs2 hs4 hs5 h1 h2 h4 h5
                  by_cases hgt : 1048576 < ((opStr ss5 k5).size : Int)
                  · go_wp2
                    go_ret
                    exact ⟨⟨false, rfl⟩, rfl⟩
                  by_cases hgt2 : 1048576 < T5 + ((opStr ss5 k5).size : Int)
                  · go_wp2
                    go_ret
                    exact ⟨⟨false, rfl⟩, rfl⟩
                  go_wp2
                  go_round
                  case rel => exact ⟨k5 + 1, _, by omega, by go_num, rfl, by omega, by omega⟩
                  case measure => simp [intOf]; omega
                · obtain rfl : k5 = n5 := by omega
                  by_cases g11 : 1048576 < (q.size : Int)
                  · go_wp2
                    go_ret
                    exact ⟨⟨false, rfl⟩, rfl⟩
                  by_cases g12 : 1048576 < T5 + (q.size : Int)
                  · go_wp2
                    go_ret
                    exact ⟨⟨false, rfl⟩, rfl⟩
                  go_wp2
                  go_ret
                  exact ⟨⟨true, rfl⟩, rfl⟩

end Go.Proofs.Yoebpw

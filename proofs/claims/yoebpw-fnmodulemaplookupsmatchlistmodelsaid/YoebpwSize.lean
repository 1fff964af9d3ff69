/-
  Seat oebp. zzB2ScriptBytes, zzB2TooBig1, zzB2TooBig2.
-/
import Derived.Test.YoebpwAdds
namespace Go.Proofs.Yoebpw
open Go.RowKit Go.Maps
set_option linter.unusedVariables false

/-- The address, where there is an element. -/
theorem Strs.place {w : World} {B : Nat} {a : Option Addr} {n : Nat} {ss : List ByteArray} (h : Strs w B a n ss) {i : Nat} (hi : i < n) :
    ∃ b off, a = some ⟨b, off, none⟩ ∧ b < B ∧ ∀ i, i < n → w.cell? ⟨b, off + i, none⟩ = some (.string (opStr ss i)) := by
  obtain ⟨_, _, _, h | h⟩ := h
  · omega
  · exact h

def Small (k : Nat) (ss : List ByteArray) : Prop := ∀ j, j < k → (opStr ss j).size ≤ 1048576

theorem Small.zero (ss : List ByteArray) : Small 0 ss := fun j hj => by omega
theorem Small.succ {k : Nat} {ss : List ByteArray} (h : Small k ss) (hk : (opStr ss k).size ≤ 1048576) : Small (k + 1) ss := fun j hj => by
  by_cases e : j = k
  · subst e; exact hk
  · exact h j (by omega)

/-- The call answers a bool. -/
def SomeBool (e : Ending) : Prop := ∃ r : Bool, e = .returned (.bool r)

/-- A script whose counts and strings are small. -/
def Fits (n0 n1 n2 : Nat) (ss1 ss2 : List ByteArray) : Prop := n0 ≤ 4096 ∧ n1 ≤ 4096 ∧ n2 ≤ 4096 ∧ Small n1 ss1 ∧ Small n2 ss2

set_option maxHeartbeats 1000000 in
theorem script_any (a0 a1 a2 : Option Addr) (n0 c0 n1 c1 n2 c2 : Nat) (ss1 ss2 : List ByteArray) (w : World) {B : Nat} (h0 : n0 ≤ maxLen) (h1 : Strs w B a1 n1 ss1) (h2 : Strs w B a2 n2 ss2) :
    Calls Ebpg.prog 26 #[.slice a0 n0 c0, .slice a1 n1 c1, .slice a2 n2 c2] w fun e w' => ∃ t : Int, e = .returned (.int .i64 t) ∧ w' = w ∧ -1 ≤ t ∧ t ≤ 1048576 ∧
      (0 ≤ t → Fits n0 n1 n2 ss1 ss2) := by
  have m1 := h1.2.1
  have m2 := h2.2.1
  have hs1 := fun i => opStr_le h1.2.2.1 i
  have hs2 := fun i => opStr_le h2.2.2.1 i
  unfold maxLen at h0 m1 m2 hs1 hs2
  by_cases g0 : n0 ≤ 4096
  · by_cases g1 : n1 ≤ 4096
    · by_cases g2 : n2 ≤ 4096
      · go_enter Ebpg.func26, Ebpg.ntmps26
        go_wp2
        go_loop [7, 8] (fun t i => ∃ k : Nat, ∃ T : Int, k ≤ n1 ∧ i = .int .i64 k ∧ t = .int .i64 T ∧ 0 ≤ T ∧ T ≤ 1048576 ∧ Small k ss1) (fun _ i => n1 - (intOf i).toNat)
        case atStart => exact ⟨0, _, Nat.zero_le _, rfl, rfl, by omega, by omega, Small.zero _⟩
        case round =>
          obtain ⟨k, T, hk, rfl, rfl, hT0, hT1, hsm⟩ := hrel
          by_cases hlt : k < n1
          · obtain ⟨b, off, rfl, _, hc⟩ := h1.place hlt
            have hck := hc k hlt
            have hsk := hs1 k
            clear hc hs1 hs2 h1 h2
            by_cases hgt : 1048576 - T < ((opStr ss1 k).size : Int)
            · go_wp2
              go_ret
              exact ⟨-1, rfl, rfl, by omega, by omega, fun h => by omega⟩
            · go_wp2
              go_round
              case rel => exact ⟨k + 1, _, by omega, by go_num, rfl, by omega, by omega, hsm.succ (by omega)⟩
              case measure => simp [intOf]; omega
          · obtain rfl : k = n1 := by omega
            go_wp2
            go_loop [7, 9] (fun t i => ∃ j : Nat, ∃ T : Int, j ≤ n2 ∧ i = .int .i64 j ∧ t = .int .i64 T ∧ 0 ≤ T ∧ T ≤ 1048576 ∧ Small j ss2) (fun _ i => n2 - (intOf i).toNat)
            case atStart => exact ⟨0, _, Nat.zero_le _, rfl, rfl, by omega, by omega, Small.zero _⟩
            case round =>
              obtain ⟨j, T, hj, rfl, rfl, hT0, hT1, hsm2⟩ := hrel
              by_cases hlt2 : j < n2
              · obtain ⟨b, off, rfl, _, hc⟩ := h2.place hlt2
                have hck := hc j hlt2
                have hsk := hs2 j
                clear hc hs1 hs2 h1 h2
                by_cases hgt : 1048576 - T < ((opStr ss2 j).size : Int)
                · go_wp2
                  go_ret
                  exact ⟨-1, rfl, rfl, by omega, by omega, fun h => by omega⟩
                · go_wp2
                  go_round
                  case rel => exact ⟨j + 1, _, by omega, by go_num, rfl, by omega, by omega, hsm2.succ (by omega)⟩
                  case measure => simp [intOf]; omega
              · obtain rfl : j = n2 := by omega
                go_wp2
                go_ret
                exact ⟨T, rfl, rfl, by omega, by omega, fun _ => ⟨g0, g1, g2, hsm, hsm2⟩⟩
      · have g2' : ¬ ((n2 : Int) ≤ 4096) := by omega
        go_enter Ebpg.func26, Ebpg.ntmps26
        go_wp2
        go_ret
        exact ⟨-1, rfl, rfl, by omega, by omega, fun h => by omega⟩
    · have g1' : ¬ ((n1 : Int) ≤ 4096) := by omega
      go_enter Ebpg.func26, Ebpg.ntmps26
      go_wp2
      go_ret
      exact ⟨-1, rfl, rfl, by omega, by omega, fun h => by omega⟩
  · have g0' : ¬ ((n0 : Int) ≤ 4096) := by omega
    go_enter Ebpg.func26, Ebpg.ntmps26
    go_wp2
    go_ret
    exact ⟨-1, rfl, rfl, by omega, by omega, fun h => by omega⟩

/-- One script and the name asked for: where it is not too big, its counts and its strings are small. -/
theorem tooBig1_any (a0 a1 a2 : Option Addr) (n0 c0 n1 c1 n2 c2 : Nat) (ss1 ss2 : List ByteArray) (q : ByteArray) (w : World) {B : Nat} (h0 : n0 ≤ maxLen) (h1 : Strs w B a1 n1 ss1) (h2 : Strs w B a2 n2 ss2) (hq : q.size ≤ maxLen) :
    Calls Ebpg.prog 8 #[.slice a0 n0 c0, .slice a1 n1 c1, .slice a2 n2 c2, .string q] w fun e w' => ∃ r : Bool, e = .returned (.bool r) ∧ w' = w ∧
      (r = false → Fits n0 n1 n2 ss1 ss2) := by
  unfold maxLen at hq
  go_enter Ebpg.func8, Ebpg.ntmps8
  go_wp2_with fail
  refine (script_any a0 a1 a2 n0 c0 n1 c1 n2 c2 ss1 ss2 _ h0 h1 h2).mono ?_
  rintro e w' ⟨t, rfl, rfl, ht0, ht1, hsm⟩
  by_cases ht : t < 0
  · go_wp2
    go_ret
    exact ⟨true, rfl, rfl, fun h => by cases h⟩
  · go_wp2
    go_ret
    exact ⟨_, rfl, rfl, fun _ => hsm (by omega)⟩

/-- Two scripts and the name asked for. -/
theorem tooBig2_any (a0 a1 a2 a3 a4 a5 : Option Addr) (n0 c0 n1 c1 n2 c2 n3 c3 n4 c4 n5 c5 : Nat) (ss1 ss2 ss4 ss5 : List ByteArray) (q : ByteArray) (w : World) {B : Nat} (h0 : n0 ≤ maxLen) (h1 : Strs w B a1 n1 ss1) (h2 : Strs w B a2 n2 ss2)
    (h3 : n3 ≤ maxLen) (h4 : Strs w B a4 n4 ss4) (h5 : Strs w B a5 n5 ss5) (hq : q.size ≤ maxLen) :
    Calls Ebpg.prog 25 #[.slice a0 n0 c0, .slice a1 n1 c1, .slice a2 n2 c2, .slice a3 n3 c3, .slice a4 n4 c4, .slice a5 n5 c5, .string q] w fun e w' => ∃ r : Bool, e = .returned (.bool r) ∧ w' = w ∧
      (r = false → Fits n0 n1 n2 ss1 ss2 ∧ Fits n3 n4 n5 ss4 ss5) := by
  unfold maxLen at hq
  go_enter Ebpg.func25, Ebpg.ntmps25
  go_wp2_with fail
  refine (script_any a0 a1 a2 n0 c0 n1 c1 n2 c2 ss1 ss2 _ h0 h1 h2).mono ?_
  rintro e w' ⟨t, rfl, rfl, ht0, ht1, hsm⟩
  by_cases ht : t < 0
  · go_wp2
    go_ret
    exact ⟨true, rfl, rfl, fun h => by cases h⟩
  · go_wp2_with fail
    refine (script_any a3 a4 a5 n3 c3 n4 c4 n5 c5 ss4 ss5 _ h3 h4 h5).mono ?_
    rintro e w'' ⟨u, rfl, rfl, hu0, hu1, hsm2⟩
    by_cases hu : u < 0
    · go_wp2
      go_ret
      exact ⟨true, rfl, rfl, fun h => by cases h⟩
    · by_cases hb : 1048576 - t < u
      · go_wp2
        go_ret
        exact ⟨true, rfl, rfl, fun h => by cases h⟩
      · go_wp2
        go_ret
        exact ⟨_, rfl, rfl, fun _ => ⟨hsm (by omega), hsm2 (by omega)⟩⟩

end Go.Proofs.Yoebpw

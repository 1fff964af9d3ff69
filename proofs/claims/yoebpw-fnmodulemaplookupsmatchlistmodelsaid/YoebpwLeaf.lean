/-
  Seat oebp. The methods of the module map, each by a contract over 'MapAt' and 'look'.
-/
import Derived.Test.YoebpwBase
namespace Go.Proofs.Yoebpw
open Go.RowKit Go.Maps

theorem assert_nil36 (w : World) : (Instr.typeAssert .nilIface 44 36 true).run Ebpg.prog w = .ok (.tuple #[.pointer none, .bool false]) w := by kernel_rfl
theorem assert_nil38 (w : World) : (Instr.typeAssert .nilIface 44 38 true).run Ebpg.prog w = .ok (.tuple #[.pointer none, .bool false]) w := by kernel_rfl
theorem assert_36_36 (v : Value) (w : World) : (Instr.typeAssert (.iface 36 v) 44 36 true).run Ebpg.prog w = .ok (.tuple #[v, .bool true]) w := by kernel_rfl
theorem assert_38_36 (v : Value) (w : World) : (Instr.typeAssert (.iface 38 v) 44 36 true).run Ebpg.prog w = .ok (.tuple #[.pointer none, .bool false]) w := by kernel_rfl
theorem assert_36_38 (v : Value) (w : World) : (Instr.typeAssert (.iface 36 v) 44 38 true).run Ebpg.prog w = .ok (.tuple #[.pointer none, .bool false]) w := by kernel_rfl
theorem assert_38_38 (v : Value) (w : World) : (Instr.typeAssert (.iface 38 v) 44 38 true).run Ebpg.prog w = .ok (.tuple #[v, .bool true]) w := by kernel_rfl

/-- The source module's address at a name; none where there is no source module. -/
def srcOf : Option Value → Option Addr
  | some (.iface 36 (.pointer a)) => a
  | _ => none
def binOf : Option Value → Option Addr
  | some (.iface 38 (.pointer a)) => a
  | _ => none

theorem get_any (p b n : Nat) (D : DataW Value) (s : ByteArray) (w : World) (c0 : w.cell? ⟨p, 0, none⟩ = some (.map (some b))) (hm : MapAt w b n D) (hs : s.size ≤ maxLen) :
    Calls Ebpg.prog 23 #[.pointer (some ⟨p, 0, none⟩), .string s] w fun e w' => e = .returned ((look D s.data.toList).getD .nilIface) ∧ w' = w := by
  obtain ⟨hrun, _, _⟩ := hm.lookup hs
  go_enter Ebpg.func23, Ebpg.ntmps23
  go_wp2
  go_ret
  exact ⟨rfl, rfl⟩

theorem getSrc_any (p b n : Nat) (D : DataW Value) (s : ByteArray) (w : World) (c0 : w.cell? ⟨p, 0, none⟩ = some (.map (some b))) (hm : MapAt w b n D) (hs : s.size ≤ maxLen) :
    Calls Ebpg.prog 17 #[.pointer (some ⟨p, 0, none⟩), .string s] w fun e w' => e = .returned (.pointer (srcOf (look D s.data.toList))) ∧ w' = w := by
  obtain ⟨hrun, _, hg⟩ := hm.lookup hs
  have a1 := assert_nil36 w
  have a2 := fun v => assert_36_36 v w
  have a3 := fun v => assert_38_36 v w
  generalize hl : look D s.data.toList = l at hrun hg
  clear hl
  cases l with
  | none =>
    go_enter Ebpg.func17, Ebpg.ntmps17
    go_wp2
    go_ret
    exact ⟨rfl, rfl⟩
  | some v =>
    obtain ⟨a, rfl | rfl⟩ := hg v rfl
    · go_enter Ebpg.func17, Ebpg.ntmps17
      go_wp2
      go_ret
      exact ⟨rfl, rfl⟩
    · go_enter Ebpg.func17, Ebpg.ntmps17
      go_wp2
      go_ret
      exact ⟨rfl, rfl⟩

theorem getBin_any (p b n : Nat) (D : DataW Value) (s : ByteArray) (w : World) (c0 : w.cell? ⟨p, 0, none⟩ = some (.map (some b))) (hm : MapAt w b n D) (hs : s.size ≤ maxLen) :
    Calls Ebpg.prog 18 #[.pointer (some ⟨p, 0, none⟩), .string s] w fun e w' => e = .returned (.pointer (binOf (look D s.data.toList))) ∧ w' = w := by
  obtain ⟨hrun, _, hg⟩ := hm.lookup hs
  have a1 := assert_nil38 w
  have a2 := fun v => assert_36_38 v w
  have a3 := fun v => assert_38_38 v w
  generalize hl : look D s.data.toList = l at hrun hg
  clear hl
  cases l with
  | none =>
    go_enter Ebpg.func18, Ebpg.ntmps18
    go_wp2
    go_ret
    exact ⟨rfl, rfl⟩
  | some v =>
    obtain ⟨a, rfl | rfl⟩ := hg v rfl
    · go_enter Ebpg.func18, Ebpg.ntmps18
      go_wp2
      go_ret
      exact ⟨rfl, rfl⟩
    · go_enter Ebpg.func18, Ebpg.ntmps18
      go_wp2
      go_ret
      exact ⟨rfl, rfl⟩

theorem len_any (p b n : Nat) (D : DataW Value) (w : World) (c0 : w.cell? ⟨p, 0, none⟩ = some (.map (some b))) (hm : MapAt w b n D) :
    Calls Ebpg.prog 14 #[.pointer (some ⟨p, 0, none⟩)] w fun e w' => e = .returned (.int .i64 (Maps.size D)) ∧ w' = w := by
  go_enter Ebpg.func14, Ebpg.ntmps14
  go_wp2_with (first
    | (at_len; refine wpList_len_own _ rfl _ 48 rfl 9 44 Ebpg.underlying48 elem b n D rfl hm ?_)
    | go_in)
  go_ret
  exact ⟨rfl, rfl⟩

theorem remove_any (p b n : Nat) (D : DataW Value) (s : ByteArray) (w : World) (c0 : w.cell? ⟨p, 0, none⟩ = some (.map (some b))) (hm : MapAt w b n D) (hs : s.size ≤ maxLen) :
    Calls Ebpg.prog 19 #[.pointer (some ⟨p, 0, none⟩), .string s] w fun e w' => e = .returned (.tuple #[]) ∧ MapAt w' b n (D.del (.string s.data.toList)) ∧ w.grownBy w' (some b) := by
  have hkey := keyStr hs
  go_enter Ebpg.func19, Ebpg.ntmps19
  go_wp2_with (first
    | (at_delete; refine wpList_delete_own _ rfl _ _ 48 9 rfl 44 law9 Ebpg.underlying48 elem b n D rfl hm _ _ rfl hkey ?_; intro w1 hown1 hturn1)
    | go_in)
  go_end0
  exact ⟨rfl, hown1, hturn1.grown⟩

theorem new_any (w : World) : Calls Ebpg.prog 11 #[] w fun e w' => e = .returned (.pointer (some ⟨w.heap.size + 1, 0, none⟩)) ∧ MapAt w' w.heap.size 0 (.map []) ∧
      w'.heap[w.heap.size + 1]? = some (.cells #[.map (some w.heap.size)] 50 (0, 0)) ∧ w.grownBy w' none := by
  have hmm := @run_makeMap Ebpg.prog
  go_enter Ebpg.func11, Ebpg.ntmps11
  go_wp2
  go_ret
  exact ⟨rfl, (World.ownsMap_made w Ebpg.prog 9 elem).alloc _, by have := heap_alloc_new (w.alloc (.map #[] 0)) (.cells #[.map (some w.heap.size)] 50 (0, 0)); simpa using this, (World.grownBy_alloc _ _ _).trans (World.grownBy_alloc _ _ _)⟩

end Go.Proofs.Yoebpw

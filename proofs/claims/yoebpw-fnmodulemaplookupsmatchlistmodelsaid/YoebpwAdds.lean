/-
  Seat oebp. AddSourceModule, AddBuiltinModule; zzB2OpName, zzB2OpPay.
-/
import Derived.Test.YoebpwLeaf
namespace Go.Proofs.Yoebpw
open Go.RowKit Go.Maps

theorem addSrc_any (p b n : Nat) (D : DataW Value) (s : ByteArray) (sa : Option Addr) (sl sc : Nat) (w : World) (c0 : w.cell? ⟨p, 0, none⟩ = some (.map (some b))) (hm : MapAt w b n D) (hs : s.size ≤ maxLen) (hn : n < maxLen) :
    Calls Ebpg.prog 29 #[.pointer (some ⟨p, 0, none⟩), .string s, .slice sa sl sc] w fun e w' => e = .returned (.tuple #[]) ∧
      MapAt w' b (n + 1) (D.put (.string s.data.toList) (.held (.iface 36 (.pointer (some ⟨w.heap.size, 0, none⟩))))) ∧
      w'.heap[w.heap.size]? = some (.cells #[.slice sa sl sc] 59 (0, 0)) ∧ w.grownBy w' (some b) := by
  have hkey := keyStr hs
  have hlt : b < w.heap.size := World.ownsMap.lt hm
  have hnew := heap_alloc_new w (.cells #[.slice sa sl sc] 59 (0, 0))
  have hm1 : MapAt (w.alloc (.cells #[.slice sa sl sc] 59 (0, 0))) b n D := World.ownsMap.alloc hm _
  go_enter Ebpg.func29, Ebpg.ntmps29
  go_wp2_with (first
    | (at_mapUpdate; refine wpList_mapUpdate_own _ rfl _ _ _ 48 rfl 9 44 law9 Ebpg.underlying48 elem b n D rfl hm1 hn _ _ _ rfl rfl hkey _ [] (elem_src _) ?_; intro w1 hown1 hg1)
    | go_in)
  go_end0
  exact ⟨rfl, hown1, (hg1.block w.heap.size (by simp) (by simp; omega)).trans hnew, (World.grownBy_alloc _ _ _).trans hg1⟩

theorem addBin_any (p b n : Nat) (D : DataW Value) (s : ByteArray) (w : World) (c0 : w.cell? ⟨p, 0, none⟩ = some (.map (some b))) (hm : MapAt w b n D) (hs : s.size ≤ maxLen) (hn : n < maxLen) :
    Calls Ebpg.prog 30 #[.pointer (some ⟨p, 0, none⟩), .string s, .map none] w fun e w' => e = .returned (.tuple #[]) ∧
      MapAt w' b (n + 1) (D.put (.string s.data.toList) (.held (.iface 38 (.pointer (some ⟨w.heap.size, 0, none⟩))))) ∧
      w'.heap[w.heap.size]? = some (.cells #[.map none] 62 (0, 0)) ∧ w.grownBy w' (some b) := by
  have hkey := keyStr hs
  have hlt : b < w.heap.size := World.ownsMap.lt hm
  have hnew := heap_alloc_new w (.cells #[.map none] 62 (0, 0))
  have hm1 : MapAt (w.alloc (.cells #[.map none] 62 (0, 0))) b n D := World.ownsMap.alloc hm _
  go_enter Ebpg.func30, Ebpg.ntmps30
  go_wp2_with (first
    | (at_mapUpdate; refine wpList_mapUpdate_own _ rfl _ _ _ 48 rfl 9 44 law9 Ebpg.underlying48 elem b n D rfl hm1 hn _ _ _ rfl rfl hkey _ [] (elem_bin _) ?_; intro w1 hown1 hg1)
    | go_in)
  go_end0
  exact ⟨rfl, hown1, (hg1.block w.heap.size (by simp) (by simp; omega)).trans hnew, (World.grownBy_alloc _ _ _).trans hg1⟩

/-- The name, or the payload, of operation i: the empty string behind the end. -/
def opStr (ss : List ByteArray) (i : Nat) : ByteArray := ss.getD i ByteArray.empty

/-- WHAT A WALK IS TOLD OF A SLICE OF STRINGS THAT IT ONLY READS: its strings, and that they lie below block B. -/
def Strs (w : World) (B : Nat) (a : Option Addr) (n : Nat) (ss : List ByteArray) : Prop :=
  ss.length = n ∧ n ≤ maxLen ∧ (∀ s ∈ ss, s.size ≤ maxLen) ∧
  (n = 0 ∨ ∃ b off, a = some ⟨b, off, none⟩ ∧ b < B ∧ ∀ i, i < n → w.cell? ⟨b, off + i, none⟩ = some (.string (opStr ss i)))

theorem opStr_le {ss : List ByteArray} (h : ∀ s ∈ ss, s.size ≤ maxLen) (i : Nat) : (opStr ss i).size ≤ maxLen := by
  unfold opStr
  rw [List.getD_eq_getElem?_getD]
  cases hi : ss[i]? with
  | none => exact Nat.zero_le _
  | some s => exact h s (List.mem_of_getElem? hi)

theorem Strs.below {w w' : World} {B : Nat} {a : Option Addr} {n : Nat} {ss : List ByteArray} (h : Strs w B a n ss) (hb : Below B w w') : Strs w' B a n ss := by
  obtain ⟨h1, h2, h3, h | ⟨b, off, ha, hlt, hc⟩⟩ := h
  · exact ⟨h1, h2, h3, .inl h⟩
  · exact ⟨h1, h2, h3, .inr ⟨b, off, ha, hlt, fun i hi => (hb.cell (p := ⟨b, off + i, none⟩) hlt).trans (hc i hi)⟩⟩

theorem Strs.mono {w : World} {B B' : Nat} {a : Option Addr} {n : Nat} {ss : List ByteArray} (h : Strs w B a n ss) (hb : B ≤ B') : Strs w B' a n ss := by
  obtain ⟨h1, h2, h3, h | ⟨b, off, ha, hlt, hc⟩⟩ := h
  · exact ⟨h1, h2, h3, .inl h⟩
  · exact ⟨h1, h2, h3, .inr ⟨b, off, ha, Nat.lt_of_lt_of_le hlt hb, hc⟩⟩

theorem opName_any (a : Option Addr) (n c : Nat) (ss : List ByteArray) (i : Nat) (w : World) {B : Nat} (h : Strs w B a n ss) (hi : i ≤ maxLen) :
    Calls Ebpg.prog 27 #[.slice a n c, .int .i64 i] w fun e w' => e = .returned (.string (opStr ss i)) ∧ w' = w := by
  obtain ⟨hl, hn, _, h⟩ := h
  unfold maxLen at hn hi
  by_cases hlt : i < n
  · obtain ⟨b, off, rfl, _, hc⟩ : ∃ b off, a = some ⟨b, off, none⟩ ∧ b < B ∧ ∀ i, i < n → w.cell? ⟨b, off + i, none⟩ = some (.string (opStr ss i)) := by
      rcases h with h | h
      · omega
      · exact h
    have hci := hc i hlt
    clear hc
    go_enter Ebpg.func27, Ebpg.ntmps27
    go_wp2
    go_ret
    exact ⟨rfl, rfl⟩
  · have he : opStr ss i = ByteArray.empty := by unfold opStr; rw [List.getD_eq_getElem?_getD, List.getElem?_eq_none (by omega)]; rfl
    have HE : Hid (opStr ss i = ByteArray.empty) := he
    clear he h
    go_enter Ebpg.func27, Ebpg.ntmps27
    go_wp2
    go_ret
    exact ⟨by rw [HE.out]; rfl, rfl⟩

theorem opPay_any (a : Option Addr) (n c : Nat) (ss : List ByteArray) (i : Nat) (w : World) {B : Nat} (h : Strs w B a n ss) (hi : i ≤ maxLen) :
    Calls Ebpg.prog 28 #[.slice a n c, .int .i64 i] w fun e w' => e = .returned (.string (opStr ss i)) ∧ w' = w := by
  obtain ⟨hl, hn, _, h⟩ := h
  unfold maxLen at hn hi
  by_cases hlt : i < n
  · obtain ⟨b, off, rfl, _, hc⟩ : ∃ b off, a = some ⟨b, off, none⟩ ∧ b < B ∧ ∀ i, i < n → w.cell? ⟨b, off + i, none⟩ = some (.string (opStr ss i)) := by
      rcases h with h | h
      · omega
      · exact h
    have hci := hc i hlt
    clear hc
    go_enter Ebpg.func28, Ebpg.ntmps28
    go_wp2
    go_ret
    exact ⟨rfl, rfl⟩
  · have he : opStr ss i = ByteArray.empty := by unfold opStr; rw [List.getD_eq_getElem?_getD, List.getElem?_eq_none (by omega)]; rfl
    have HE : Hid (opStr ss i = ByteArray.empty) := he
    clear he h
    go_enter Ebpg.func28, Ebpg.ntmps28
    go_wp2
    go_ret
    exact ⟨by rw [HE.out]; rfl, rfl⟩

end Go.Proofs.Yoebpw

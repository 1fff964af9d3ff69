/-
  Seat oebp. The module map in memory: its block is the kit's 'ownsMap' over tokens that are the very values; 'look' is what stands at a name.
-/
import Derived.Test.YoebpwProg
import Derived.Maps.OwnSet
import Derived.Maps.Range
import Derived.Maps.AppendAt
import Derived.WalkKit
import Derived.WalkLawsBesides
import Derived.KernelRfl
namespace Go.Proofs.Yoebpw
open Go.RowKit Go.Maps

theorem law9 : Keyed Ebpg.prog 9 := string_keyed Ebpg.underlying9
theorem zero44 (w : World) : (zeroValue 44).run Ebpg.prog w = .ok .nilIface w := by kernel_rfl

/-- A module as the map holds it: a pointer of one of the two module types, never nil. -/
def Good (v : Value) : Prop := ∃ a : Addr, v = .iface 36 (.pointer (some a)) ∨ v = .iface 38 (.pointer (some a))

/-- How an element of the map reads: as itself. -/
def elem : Value → Option (DataW Value × List MemPlace)
  | .iface 36 (.pointer (some a)) => some (.held (.iface 36 (.pointer (some a))), [])
  | .iface 38 (.pointer (some a)) => some (.held (.iface 38 (.pointer (some a))), [])
  | _ => none

theorem elem_src (a : Addr) : elem (.iface 36 (.pointer (some a))) = some (.held (.iface 36 (.pointer (some a))), []) := rfl
theorem elem_bin (a : Addr) : elem (.iface 38 (.pointer (some a))) = some (.held (.iface 38 (.pointer (some a))), []) := rfl
theorem elem_inv {v : Value} {z : DataW Value × List MemPlace} (h : elem v = some z) : z = (.held v, []) ∧ Good v := by
  unfold elem at h
  split at h
  · cases h; exact ⟨rfl, _, .inl rfl⟩
  · cases h; exact ⟨rfl, _, .inr rfl⟩
  · cases h

/-- WHAT STANDS AT A NAME. -/
def look (D : DataW Value) (s : List UInt8) : Option Value :=
  match D.atKey (.string s) .nil with
  | .held v => some v
  | _ => none

/-- The map's block. -/
def MapAt (w : World) (b n : Nat) (D : DataW Value) : Prop := w.ownsMap Ebpg.prog 9 elem b n D

theorem keyStr {s : ByteArray} (h : s.size ≤ maxLen) : keyOf Ebpg.prog 9 (.string s) = some (.string s.data.toList) := WideMaps.keyOf_string_mk Ebpg.underlying9 h

theorem isKeyStr (s : List UInt8) : WideAt.IsKeyLit (.string s) := trivial

/-- A look-up: the world stands; what comes back is what stands at the name, nil where nothing does. -/
theorem MapAt.lookup {w : World} {b n : Nat} {D : DataW Value} (h : MapAt w b n D) {s : ByteArray} (hs : s.size ≤ maxLen) :
    (Instr.lookup 48 (.map (some b)) (.string s) false).run Ebpg.prog w = .ok ((look D s.data.toList).getD .nilIface) w ∧
      (Maps.has D (.string s.data.toList) = (look D s.data.toList).isSome) ∧ ∀ v, look D s.data.toList = some v → Good v := by
  obtain ⟨es, clock, hb, F, _, rfl⟩ := h
  rcases Maps.fit_look false law9 Ebpg.underlying48 (zero44 w) hb F (keyStr hs) with ⟨hrun, _, hat⟩ | ⟨e0, y, _, _, hrun, hRv, hat, _⟩
  · have hl : look (DataW.map ((es.toList.map (WideElems.rg Ebpg.prog 9 elem)).foldr DataW.insert [])) s.data.toList = none := by unfold look; rw [hat]
    rw [hl, Maps.has_false_of_atKey hat]
    exact ⟨hrun, rfl, fun v hv => by cases hv⟩
  · obtain ⟨rfl, hg⟩ := elem_inv hRv
    have hl : look (DataW.map ((es.toList.map (WideElems.rg Ebpg.prog 9 elem)).foldr DataW.insert [])) s.data.toList = some e0.val := by unfold look; rw [hat]
    rw [hl, Maps.has_true_of_atKey hat]
    exact ⟨hrun, rfl, fun v hv => by cases hv; exact hg⟩

theorem MapAt.tidy {w : World} {b n : Nat} {D : DataW Value} (h : MapAt w b n D) : Maps.Tidy D := World.ownsMap.tidy h law9

/-! ### what 'put' and 'del' do to 'look' -/
theorem look_put_same {D : DataW Value} (hD : Maps.IsMap D) (s : List UInt8) (v : Value) : look (D.put (.string s) (.held v)) s = some v := by
  unfold look; rw [Maps.atKey_put_same hD (isKeyStr s)]
theorem look_put_other {D : DataW Value} {s t : List UInt8} (h : t ≠ s) (d : DataW Value) : look (D.put (.string s) d) t = look D t := by
  unfold look; rw [Maps.atKey_put_other (fun e => h (by cases e; rfl))]
theorem look_del_same (D : DataW Value) (s : List UInt8) : look (D.del (.string s)) s = none := by
  unfold look; rw [Maps.atKey_del_same]
theorem look_del_other {D : DataW Value} {s t : List UInt8} (h : t ≠ s) : look (D.del (.string s)) t = look D t := by
  unfold look; rw [Maps.atKey_del_other (fun e => h (by cases e; rfl))]

end Go.Proofs.Yoebpw

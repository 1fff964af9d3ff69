/-
  Seat oebp. The list model's entries in memory; zzB2Find; zzB2SameBytes.
-/
import Derived.Test.YoebpwDrawn
namespace Go.Proofs.Yoebpw
open Go.RowKit Go.Maps
set_option linter.unusedVariables false

/-- An entry of the list model: name, kind, payload. -/
abbrev Ent := ByteArray × Int × ByteArray
def noEnt : Ent := (ByteArray.empty, 0, ByteArray.empty)
def entName (es : List Ent) (i : Nat) : ByteArray := (es.getD i noEnt).1
def entKind (es : List Ent) (i : Nat) : Int := (es.getD i noEnt).2.1
def entPay (es : List Ent) (i : Nat) : ByteArray := (es.getD i noEnt).2.2

/-- The entries lie where the slice leads, three cells each. -/
def Ents (w : World) (a : Option Addr) (n : Nat) (es : List Ent) : Prop :=
  es.length = n ∧ (n = 0 ∨ ∃ g, a = some ⟨g, 0, none⟩ ∧ ∀ i, i < n → w.cell? ⟨g, i * 3, none⟩ = some (.string (entName es i)) ∧ w.cell? ⟨g, i * 3 + 1, none⟩ = some (.int .u8 (entKind es i)) ∧ w.cell? ⟨g, i * 3 + 2, none⟩ = some (.string (entPay es i)))

theorem Ents.place {w : World} {a : Option Addr} {n : Nat} {es : List Ent} (h : Ents w a n es) {i : Nat} (hi : i < n) :
    ∃ g, a = some ⟨g, 0, none⟩ ∧ ∀ i, i < n → w.cell? ⟨g, i * 3, none⟩ = some (.string (entName es i)) ∧ w.cell? ⟨g, i * 3 + 1, none⟩ = some (.int .u8 (entKind es i)) ∧ w.cell? ⟨g, i * 3 + 2, none⟩ = some (.string (entPay es i)) := by
  obtain ⟨_, h | h⟩ := h
  · omega
  · exact h

/-- The first place at which the name stands; -1 where it stands nowhere. -/
def Found (es : List Ent) (n : Nat) (s : ByteArray) (j : Int) : Prop :=
  (j = -1 ∧ ∀ i, i < n → entName es i ≠ s) ∨ ∃ i, i < n ∧ j = (i : Int) ∧ entName es i = s

theorem str_eq {s t : ByteArray} (h : (s.toList == t.toList) = true) : s = t := by
  rw [beq_iff_eq, Lib.toList_data, Lib.toList_data] at h
  exact WideShapes.bytes_inj h

def Misses (es : List Ent) (k : Nat) (s : ByteArray) : Prop := ∀ i, i < k → entName es i ≠ s
theorem Misses.zero (es : List Ent) (s : ByteArray) : Misses es 0 s := fun i hi => by omega
theorem Misses.succ {es : List Ent} {k : Nat} {s : ByteArray} (h : Misses es k s) (hk : entName es k ≠ s) : Misses es (k + 1) s := fun i hi => by
  by_cases e : i = k
  · subst e; exact hk
  · exact h i (by omega)

set_option maxHeartbeats 1000000 in
theorem find_any (a : Option Addr) (n c : Nat) (es : List Ent) (s : ByteArray) (w : World) (h : Ents w a n es) (hn : n ≤ 4096) :
    Calls Ebpg.prog 31 #[.slice a n c, .string s] w fun e w' => ∃ j : Int, e = .returned (.int .i64 j) ∧ w' = w ∧ Found es n s j := by
  go_enter Ebpg.func31, Ebpg.ntmps31
  go_wp2
  go_loop [5] (fun i => ∃ k : Nat, k ≤ n ∧ i = .int .i64 k ∧ Misses es k s) (fun i => n - (intOf i).toNat)
  case atStart => exact ⟨0, Nat.zero_le _, rfl, Misses.zero _ _⟩
  case round =>
    obtain ⟨k, hk, rfl, hmis⟩ := hrel
    by_cases hlt : k < n
    · obtain ⟨g, rfl, hc⟩ := h.place hlt
      have hck := (hc k hlt).1
      clear hc h
      by_cases he : entName es k = s
      · go_wp2
        go_ret
        exact ⟨k, rfl, rfl, .inr ⟨k, hlt, rfl, he⟩⟩
      · have hne := str_ne he
        go_wp2
        go_round
        case rel => exact ⟨k + 1, by omega, by go_num, hmis.succ he⟩
        case measure => (simp [intOf]) <;> omega
    · obtain rfl : k = n := by omega
      go_wp2
      go_ret
      exact ⟨-1, rfl, rfl, .inl ⟨rfl, hmis⟩⟩

set_option maxHeartbeats 1000000 in
theorem same_any (d cap : Nat) (s : ByteArray) (w : World) (hs : s.size ≤ maxLen) (hc : ∀ i, i < s.size → w.cell? ⟨d, i, none⟩ = some (.int .u8 (byteAt s i))) :
    Calls Ebpg.prog 32 #[.slice (some ⟨d, 0, none⟩) s.size cap, .string s] w fun e w' => e = .returned (.bool true) ∧ Drawn w w' := by
  unfold maxLen at hs
  go_enter Ebpg.func32, Ebpg.ntmps32
  go_wp2
  go_loopw [5] (fun i wr => ∃ k : Nat, k ≤ s.size ∧ i = .int .i64 k ∧ Drawn w wr) (fun i _ => s.size - (intOf i).toNat)
  case atStart => exact ⟨0, Nat.zero_le _, rfl, Drawn.refl _⟩
  case round =>
    obtain ⟨k, hk, rfl, hdr⟩ := hrel
    by_cases hlt : k < s.size
    · have hck := (hdr.cell _).trans (hc k hlt)
      have hb : byteAt s k = (s[k].toNat : Int) := by unfold byteAt; rw [dif_pos hlt]
      rw [hb] at hck
      have hki : (k : Int) < (s.size : Int) := by omega
      clear hb hc
      go_wp2_with fail
      go_quiet (fail)
      have hdr2 := hdr.more nq
      go_wp2_with fail
      go_roundw
      case rel => exact ⟨k + 1, by omega, by go_num, hdr2⟩
      case measure => (simp [intOf]) <;> omega
    · obtain rfl : k = s.size := by omega
      go_wp2
      go_ret
      exact ⟨rfl, hdr⟩

end Go.Proofs.Yoebpw

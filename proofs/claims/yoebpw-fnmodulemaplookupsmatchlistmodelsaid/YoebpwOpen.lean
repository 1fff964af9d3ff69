/-
  Seat oebp. From the reading of an argument to what the walks are told of it.
-/
import Derived.Test.YoebpwClone
import Derived.ProofKit
import Derived.SliceStrings
import Derived.Carry
namespace Go.Proofs.Yoebpw
open Go.ChangeShapes Go.WideShapes Go.RowKit

theorem trodAll_more {H : Type} {enc : TypeId × Value → H} {P : Program} {w : World} {base : Nat} {spare : Nat → Bool} {held : Bool} {t : TypeId} {ts : List TypeId} {v : Value} {vs : List Value} {d : DataW H} {ds : List (DataW H)} {p p' : List MemPlace}
    (h : DataW.Trod enc P w base spare held t v d p) (r : DataW.TrodAll enc P w base spare held ts vs ds p') : DataW.TrodAll enc P w base spare held (t :: ts) (v :: vs) (d :: ds) (p ++ p') := ⟨p, p', h, r, rfl⟩

theorem take_getD_str {ss : List ByteArray} {len i : Nat} (h : i < len) : opStr (ss.take len) i = ss.getD i ByteArray.empty := by
  unfold opStr
  rw [List.getD_eq_getElem?_getD, List.getD_eq_getElem?_getD, List.getElem?_take, if_pos h]
theorem take_getD_int {ss : List Int} {len i : Nat} (h : i < len) : opInt (ss.take len) i = ss.getD i 0 := by
  unfold opInt
  rw [List.getD_eq_getElem?_getD, List.getD_eq_getElem?_getD, List.getElem?_take, if_pos h]

theorem byte_bounds {z : Int} (h : (Lit.int .u8 z).wf = true) : 0 ≤ z ∧ z ≤ 255 := by
  simp only [Lit.wf, Bool.and_eq_true, decide_eq_true_eq] at h
  exact h

theorem open_byts {H : Type} {enc : TypeId × Value → H} {W : World} {a : Option Addr} {len cap : Nat} {d : DataW H} {p : List MemPlace} (h : DataW.Trod enc Ebpg.prog W 0 (fun _ => true) true 22 (.slice a len cap) d p) :
    ∃ zs, Byts W W.heap.size a len zs ∧ (a = none → len = 0) := by
  obtain ⟨fuel, hf⟩ := h
  rcases open_ints Ebpg.underlying22 Ebpg.underlying5 (by kernel_rfl) hf with ⟨hcs, _⟩ | ⟨x, l, c, zs, hcs, _, hl, hm, hz, _, hcell, hwz⟩
  · simp [Value.cells] at hcs
    obtain ⟨rfl, rfl, rfl⟩ := hcs
    exact ⟨[], ⟨rfl, Nat.zero_le _, fun z hz => (by cases hz), .inl rfl⟩, fun _ => rfl⟩
  · simp [Value.cells] at hcs
    obtain ⟨rfl, rfl, rfl⟩ := hcs
    simp only [if_true] at hz
    have hlz : len ≤ zs.length := by omega
    refine ⟨zs.take len, ⟨by simp; omega, Nat.le_trans hl hm, fun z hzz => byte_bounds (hwz z (List.mem_of_mem_take hzz)), ?_⟩, fun e => by cases e⟩
    by_cases h0 : len = 0
    · exact .inl h0
    · obtain ⟨b, off, spot⟩ := x
      have hspot : spot = none := by simpa [Addr.add] using World.cell?_spot (hcell 0 (by omega))
      subst hspot
      have hlt := World.block_lt_of_cell? _ _ (hcell 0 (by omega))
      rw [WideShapes.add_plain] at hlt
      exact .inr ⟨b, off, rfl, hlt, fun i hi => by rw [take_getD_int hi, ← WideShapes.add_plain]; exact hcell i (by omega)⟩

theorem open_strs {H : Type} {enc : TypeId × Value → H} {W : World} {a : Option Addr} {len cap : Nat} {d : DataW H} {p : List MemPlace} (h : DataW.Trod enc Ebpg.prog W 0 (fun _ => true) true 23 (.slice a len cap) d p) :
    ∃ ss, Strs W W.heap.size a len ss ∧ (a = none → len = 0) := by
  obtain ⟨fuel, hf⟩ := h
  rcases open_strings Ebpg.underlying23 Ebpg.underlying9 (by kernel_rfl) hf with ⟨hcs, _⟩ | ⟨x, l, c, ss, hcs, _, hl, hm, hz, _, hcell, hws⟩
  · simp [Value.cells] at hcs
    obtain ⟨rfl, rfl, rfl⟩ := hcs
    exact ⟨[], ⟨rfl, Nat.zero_le _, fun z hz => (by cases hz), .inl rfl⟩, fun _ => rfl⟩
  · simp [Value.cells] at hcs
    obtain ⟨rfl, rfl, rfl⟩ := hcs
    simp only [if_true] at hz
    have hlz : len ≤ ss.length := by omega
    refine ⟨ss.take len, ⟨by simp; omega, Nat.le_trans hl hm, fun s hs => hws s (List.mem_of_mem_take hs), ?_⟩, fun e => by cases e⟩
    by_cases h0 : len = 0
    · exact .inl h0
    · obtain ⟨b, off, spot⟩ := x
      have hspot : spot = none := by simpa [Addr.add] using World.cell?_spot (hcell 0 (by omega))
      subst hspot
      have hlt := World.block_lt_of_cell? _ _ (hcell 0 (by omega))
      rw [WideShapes.add_plain] at hlt
      exact .inr ⟨b, off, rfl, hlt, fun i hi => by rw [take_getD_str hi, ← WideShapes.add_plain]; exact hcell i (by omega)⟩

end Go.Proofs.Yoebpw

/-
  Seat oebp. zzB2Apply: one walk, over whatever invariant each operation keeps.
-/
import Derived.Test.YoebpwClone
import Derived.Laws.IdiomStrings
import Derived.Maps.RangeWalk
import Derived.Lib.Strings
namespace Go.Proofs.Yoebpw
open Go.RowKit Go.Maps
set_option linter.unusedVariables false

/-- The byte of a string at a place. -/
def byteAt (s : ByteArray) (i : Nat) : Int := if h : i < s.size then (s[i].toNat : Int) else 0

theorem str_ne {s t : ByteArray} (h : s ≠ t) : (s.toList == t.toList) = false := by
  rw [beq_eq_false_iff_ne]
  intro e
  rw [Lib.toList_data, Lib.toList_data] at e
  exact h (WideShapes.bytes_inj e)

/-- '[]byte(s)': a new block that holds the string's bytes. -/
theorem conv_any (w : World) (s : ByteArray) : ∃ cap w1, (convert 9 22 (.string s)).run Ebpg.prog w = .ok (.slice (some ⟨w.heap.size, 0, none⟩) s.size cap) w1 ∧ w.grownBy w1 none ∧ w.heap.size < w1.heap.size ∧
    ∀ i, i < s.size → w1.cell? ⟨w.heap.size, i, none⟩ = some (.int .u8 (byteAt s i)) := by
  refine ⟨_, _, run_bytes_of_string w 9 22 5 s Ebpg.underlying9 Ebpg.underlying22 Ebpg.underlying5, ⟨rfl, rfl, rfl, by simp, fun k hk _ => ?_⟩, by simp, fun i hi => ?_⟩
  · exact Below.heap_alloc w.drew _ k hk
  · have hh := heap_alloc_new w.drew (.cells (bytesRow s (grownCap w s.size 0 5)) 5 ((bytesRow s (grownCap w s.size 0 5)).size, (bytesRow s (grownCap w s.size 0 5)).size + 1))
    have hs : w.drew.heap.size = w.heap.size := rfl
    rw [hs] at hh
    unfold World.cell?
    simp only [hh]
    have := bytesRow_at s (grownCap w s.size 0 5) i hi
    simp only [Option.isSome_none, Bool.false_eq_true, if_false, this, byteAt, hi, dif_pos]
    rfl

/-- WHAT A MODULE IN THE MAP HOLDS: kind 0: a source module whose text is 'pay'; kind 1: a builtin module with nil attributes. -/
def Holds (w : World) (v : Value) (kd : Int) (pay : ByteArray) : Prop :=
  (kd = 0 ∧ ∃ c d cap, v = .iface 36 (.pointer (some ⟨c, 0, none⟩)) ∧ w.heap[c]? = some (.cells #[.slice (some ⟨d, 0, none⟩) pay.size cap] 59 (0, 0)) ∧ ∀ i, i < pay.size → w.cell? ⟨d, i, none⟩ = some (.int .u8 (byteAt pay i))) ∨
  (kd = 1 ∧ ∃ c, v = .iface 38 (.pointer (some ⟨c, 0, none⟩)) ∧ w.heap[c]? = some (.cells #[.map none] 62 (0, 0)))

theorem MapAt.block {w : World} {b n : Nat} {D : DataW Value} (h : MapAt w b n D) : ∃ es clock, w.heap[b]? = some (.map es clock) := by
  obtain ⟨es, clock, hb, _⟩ := h
  exact ⟨es, clock, hb⟩

theorem MapAt.lt {w : World} {b n : Nat} {D : DataW Value} (h : MapAt w b n D) : b < w.heap.size := World.ownsMap.lt h

/-- A block of cells is not the map's. -/
theorem kept_block {w w' : World} {b n c : Nat} {D : DataW Value} {cs : Array Value} {t : TypeId} {f : Nat × Nat} (hm : MapAt w b n D) (hg : w.grownBy w' (some b)) (h : w.heap[c]? = some (.cells cs t f)) : w'.heap[c]? = some (.cells cs t f) := by
  obtain ⟨es, clock, hb⟩ := hm.block
  refine (hg.block c (lt_of_block h) (fun e => ?_)).trans h
  cases e
  rw [hb] at h
  cases h

theorem kept_cell {w w' : World} {b n c i : Nat} {D : DataW Value} {v : Value} (hm : MapAt w b n D) (hg : w.grownBy w' (some b)) (h : w.cell? ⟨c, i, none⟩ = some v) : w'.cell? ⟨c, i, none⟩ = some v := by
  obtain ⟨es, clock, hb⟩ := hm.block
  refine hg.cell h (fun e => ?_)
  simp only [Option.some.injEq] at e
  subst e
  simp [World.cell?, hb] at h

theorem Holds.kept {w w' : World} {b n : Nat} {D : DataW Value} {v : Value} {kd : Int} {pay : ByteArray} (h : Holds w v kd pay) (hm : MapAt w b n D) (hg : w.grownBy w' (some b)) : Holds w' v kd pay := by
  rcases h with ⟨hk, c, d, cap, hv, hc, hd⟩ | ⟨hk, c, hv, hc⟩
  · exact .inl ⟨hk, c, d, cap, hv, kept_block hm hg hc, fun i hi => kept_cell hm hg (hd i hi)⟩
  · exact .inr ⟨hk, c, hv, kept_block hm hg hc⟩

/-- The operation is passed over. -/
def Skips (us : Bool) (skip n : ByteArray) : Prop := us = true ∧ n = skip

/-- The key under which a name stands. -/
def keyOfName (s : ByteArray) : Lit := .string s.data.toList

/-- AN INVARIANT OF THE SCRIPT: what each operation makes of it. -/
structure Keeps (b n : Nat) (zs : List Int) (ss1 ss2 : List ByteArray) (us : Bool) (skip : ByteArray) (I : Nat → World → DataW Value → Prop) : Prop where
  skipped : ∀ k wr D, k < n → Skips us skip (opStr ss1 k) → I k wr D → I (k + 1) wr D
  added : ∀ k wr m D w1 v, k < n → ¬ Skips us skip (opStr ss1 k) → opInt zs k % 3 ≠ 2 → MapAt wr b m D → wr.grownBy w1 (some b) → Holds w1 v (opInt zs k % 3) (opStr ss2 k) → I k wr D → I (k + 1) w1 (D.put (keyOfName (opStr ss1 k)) (.held v))
  removed : ∀ k wr m D w1, k < n → ¬ Skips us skip (opStr ss1 k) → opInt zs k % 3 = 2 → MapAt wr b m D → wr.grownBy w1 (some b) → I k wr D → I (k + 1) w1 (D.del (keyOfName (opStr ss1 k)))

/-- What the script leaves. -/
def Applied (b n n0 : Nat) (w : World) (I : Nat → World → DataW Value → Prop) (e : Ending) (w' : World) : Prop :=
  e = .returned (.tuple #[]) ∧ ∃ D, MapAt w' b (n0 + n) D ∧ w.grownBy w' (some b) ∧ I n w' D

theorem below_of_grown {w w' : World} {b B : Nat} (h : w.grownBy w' (some b)) (h1 : B ≤ b) (h2 : B ≤ w.heap.size) : Below B w w' :=
  ⟨h.os, h.tape, h.output, h.size, fun k hk => h.block k (by omega) (fun e => by cases e; omega)⟩

set_option maxHeartbeats 2000000 in
theorem apply_any (p b n0 : Nat) (D0 : DataW Value) (a0 a1 a2 : Option Addr) (n c0 n1 c1 n2 c2 : Nat) (zs : List Int) (ss1 ss2 : List ByteArray) (skip : ByteArray) (us : Bool) (w : World) {B : Nat} (I : Nat → World → DataW Value → Prop)
    (hp : w.heap[p]? = some (.cells #[.map (some b)] 50 (0, 0))) (hm : MapAt w b n0 D0) (hz : Byts w B a0 n zs) (h1 : Strs w B a1 n1 ss1) (h2 : Strs w B a2 n2 ss2) (hBb : B ≤ b) (hn : n ≤ 4096) (hn0 : n0 ≤ 4096)
    (hK : Keeps b n zs ss1 ss2 us skip I) (hI : I 0 w D0) :
    Calls Ebpg.prog 12 #[.pointer (some ⟨p, 0, none⟩), .slice a0 n c0, .slice a1 n1 c1, .slice a2 n2 c2, .string skip, .bool us] w fun e w' => Applied b n n0 w I e w' := by
  have hBw : B ≤ w.heap.size := by have := hm.lt; omega
  go_enter Ebpg.func12, Ebpg.ntmps12
  go_wp2
  go_loopw [12] (fun i wr => ∃ k : Nat, ∃ D, k ≤ n ∧ i = .int .i64 k ∧ MapAt wr b (n0 + k) D ∧ w.grownBy wr (some b) ∧ I k wr D) (fun i _ => n - (intOf i).toNat)
  case atStart => exact ⟨0, D0, Nat.zero_le _, rfl, hm, World.grownBy.refl _ _, hI⟩
  case round =>
    obtain ⟨k, D, hk, rfl, hmr, hgr, hIr⟩ := hrel
    by_cases hlt : k < n
    · have hbel := below_of_grown hgr hBb hBw
      have z' := hz.below hbel
      have s1' := h1.below hbel
      have s2' := h2.below hbel
      have cp := cell_of_one (kept_block hm hgr hp)
      have hnm := opStr_le h1.2.2.1 k
      have hzk := opInt_le hz.2.2.1 k
      clear hbel
      go_wp2_with fail
      refine (opName_any a1 n1 c1 ss1 k _ s1' (by unfold maxLen; omega)).mono ?_
      rintro e w' ⟨rfl, rfl⟩
      by_cases hsk : us = true ∧ opStr ss1 k = skip
      · obtain ⟨rfl, hs⟩ := hsk
        have hI' := hK.skipped k _ D hlt ⟨rfl, hs⟩ hIr
        have hm' : MapAt w' b (n0 + (k + 1)) D := World.ownsMap.mono hmr (by omega)
        go_wp2_with fail
        go_roundw
        case rel => exact ⟨k + 1, D, by omega, by go_num, hm', hgr, hI'⟩
        case measure => simp [intOf]; omega
      · have hns : Hid (¬ Skips us skip (opStr ss1 k)) := hsk
        have hcase : us = false ∨ (us = true ∧ ((opStr ss1 k).toList == skip.toList) = false) := by
          cases us
          · exact .inl rfl
          · exact .inr ⟨rfl, str_ne (fun e => hsk ⟨rfl, e⟩)⟩
        clear hsk
        rcases hcase with rfl | ⟨rfl, hs⟩
        all_goals
          go_wp2_with fail
          refine (opPay_any a2 n2 c2 ss2 k _ s2' (by unfold maxLen; omega)).mono ?_
          rintro e w2 ⟨rfl, rfl⟩
          obtain ⟨bz, oz, rfl, _, hcz⟩ := z'.place hlt
          have hczk := hcz k hlt
          clear hcz z' s1' s2'
          rcases (show opInt zs k % 3 = 0 ∨ opInt zs k % 3 = 1 ∨ opInt zs k % 3 = 2 by omega) with h3 | h3 | h3
          · obtain ⟨cap, w3, hconv, hcg, hcl, hcc⟩ := conv_any w2 (opStr ss2 k)
            have cp3 := hcg.cell cp (by simp)
            have hm3 : MapAt w3 b (n0 + k) D := World.ownsMap.kept hmr hcg (by simp)
            go_wp2_with fail
            refine (addSrc_any p b (n0 + k) D (opStr ss1 k) (some ⟨w2.heap.size, 0, none⟩) (opStr ss2 k).size cap _ cp3 hm3 hnm (by unfold maxLen; omega)).mono ?_
            rintro e w4 ⟨rfl, hm4, hc4, hg4⟩
            have hg := (hcg.but (some b)).trans hg4
            have hol : Holds w4 (.iface 36 (.pointer (some ⟨w3.heap.size, 0, none⟩))) (opInt zs k % 3) (opStr ss2 k) :=
              .inl ⟨h3, w3.heap.size, w2.heap.size, cap, rfl, hc4, fun i hi => kept_cell hm3 hg4 (hcc i hi)⟩
            have hI' := hK.added k w2 (n0 + k) D w4 _ hlt hns.out (by omega) hmr hg hol hIr
            clear hol hc4 hcc hcg hcl hm3 cp3 hmr
            go_wp2_with fail
            go_roundw
            case rel => exact ⟨k + 1, _, by omega, by go_num, hm4, hgr.trans hg, hI'⟩
            case measure => simp [intOf]; omega
          · go_wp2_with fail
            refine (addBin_any p b (n0 + k) D (opStr ss1 k) _ cp hmr hnm (by unfold maxLen; omega)).mono ?_
            rintro e w4 ⟨rfl, hm4, hc4, hg4⟩
            have hol : Holds w4 (.iface 38 (.pointer (some ⟨w2.heap.size, 0, none⟩))) (opInt zs k % 3) (opStr ss2 k) := .inr ⟨h3, w2.heap.size, rfl, hc4⟩
            have hI' := hK.added k w2 (n0 + k) D w4 _ hlt hns.out (by omega) hmr hg4 hol hIr
            clear hol hc4 hmr
            go_wp2_with fail
            go_roundw
            case rel => exact ⟨k + 1, _, by omega, by go_num, hm4, hgr.trans hg4, hI'⟩
            case measure => simp [intOf]; omega
          · go_wp2_with fail
            refine (remove_any p b (n0 + k) D (opStr ss1 k) _ cp hmr hnm).mono ?_
            rintro e w4 ⟨rfl, hm4, hg4⟩
            have hI' := hK.removed k w2 (n0 + k) D w4 hlt hns.out h3 hmr hg4 hIr
            have hm5 : MapAt w4 b (n0 + (k + 1)) (D.del (.string (opStr ss1 k).data.toList)) := World.ownsMap.mono hm4 (by omega)
            clear hmr hm4
            go_wp2_with fail
            go_roundw
            case rel => exact ⟨k + 1, _, by omega, by go_num, hm5, hgr.trans hg4, hI'⟩
            case measure => simp [intOf]; omega
    · obtain rfl : k = n := by omega
      go_wp2
      go_end0
      exact ⟨rfl, D, hmr, hgr, hIr⟩

end Go.Proofs.Yoebpw

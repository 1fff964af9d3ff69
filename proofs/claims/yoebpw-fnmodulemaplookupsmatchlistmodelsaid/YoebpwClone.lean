/-
  Seat oebp. zzB2CloneU8, zzB2CloneStr: a new block that holds the same.
-/
import Derived.Test.YoebpwSize
namespace Go.Proofs.Yoebpw
open Go.RowKit Go.Maps
set_option linter.unusedVariables false

theorem Ebpg.info5 : (Ebpg.prog.info? 5).map (fun i => (i.zero, i.size, i.bytes)) = some (some (.int .u8 0), 1, 1) := by kernel_rfl
theorem Ebpg.info9 : (Ebpg.prog.info? 9).map (fun i => (i.zero, i.size, i.bytes)) = some (some (.string ByteArray.empty), 1, 16) := by kernel_rfl

def opInt (zs : List Int) (i : Nat) : Int := zs.getD i 0

/-- WHAT A WALK IS TOLD OF A SLICE OF BYTES THAT IT ONLY READS. -/
def Byts (w : World) (B : Nat) (a : Option Addr) (n : Nat) (zs : List Int) : Prop :=
  zs.length = n ∧ n ≤ maxLen ∧ (∀ z ∈ zs, 0 ≤ z ∧ z ≤ 255) ∧
  (n = 0 ∨ ∃ b off, a = some ⟨b, off, none⟩ ∧ b < B ∧ ∀ i, i < n → w.cell? ⟨b, off + i, none⟩ = some (Value.int .u8 (opInt zs i)))

theorem opInt_le {zs : List Int} (h : ∀ z ∈ zs, 0 ≤ z ∧ z ≤ 255) (i : Nat) : 0 ≤ opInt zs i ∧ opInt zs i ≤ 255 := by
  unfold opInt
  rw [List.getD_eq_getElem?_getD]
  cases hi : zs[i]? with
  | none => exact ⟨by decide, by decide⟩
  | some s => exact h s (List.mem_of_getElem? hi)

theorem Byts.place {w : World} {B : Nat} {a : Option Addr} {n : Nat} {ss : List Int} (h : Byts w B a n ss) {i : Nat} (hi : i < n) :
    ∃ b off, a = some ⟨b, off, none⟩ ∧ b < B ∧ ∀ i, i < n → w.cell? ⟨b, off + i, none⟩ = some (Value.int .u8 (opInt ss i)) := by
  obtain ⟨_, _, _, h | h⟩ := h
  · omega
  · exact h

theorem Byts.below {w w' : World} {B : Nat} {a : Option Addr} {n : Nat} {ss : List Int} (h : Byts w B a n ss) (hb : Below B w w') : Byts w' B a n ss := by
  obtain ⟨h1, h2, h3, h | ⟨b, off, ha, hlt, hc⟩⟩ := h
  · exact ⟨h1, h2, h3, .inl h⟩
  · exact ⟨h1, h2, h3, .inr ⟨b, off, ha, hlt, fun i hi => (hb.cell (p := ⟨b, off + i, none⟩) hlt).trans (hc i hi)⟩⟩

theorem Byts.mono {w : World} {B B' : Nat} {a : Option Addr} {n : Nat} {ss : List Int} (h : Byts w B a n ss) (hb : B ≤ B') : Byts w B' a n ss := by
  obtain ⟨h1, h2, h3, h | ⟨b, off, ha, hlt, hc⟩⟩ := h
  · exact ⟨h1, h2, h3, .inl h⟩
  · exact ⟨h1, h2, h3, .inr ⟨b, off, ha, Nat.lt_of_lt_of_le hlt hb, hc⟩⟩

/-- The first k cells of the copy hold what f says. -/
def Copied (f : Nat → Value) (k : Nat) (xs : List Value) : Prop := ∀ j, j < k → xs[j]? = some (f j)

theorem Copied.zero (f : Nat → Value) (xs : List Value) : Copied f 0 xs := fun j hj => by omega
theorem Copied.step {f : Nat → Value} {k : Nat} {xs : List Value} (h : Copied f k xs) (hk : k < xs.length) : Copied f (k + 1) (xs.set k (f k)) := fun j hj => by
  rw [List.getElem?_set]
  by_cases e : k = j
  · subst e; simp [hk]
  · rw [if_neg e]; exact h j (by omega)

theorem grownBy_own {w wr w' : World} {B : Nat} (h : w.grownBy wr none) (hg : wr.grownBy w' (some B)) (hB : w.heap.size ≤ B) : w.grownBy w' none :=
  h.andThen hg (fun j hj => .inl (by cases hj; exact hB))

/-- A copy in memory of its own (a nil slice: nil); nothing old has turned. -/
def BytsClone (w : World) (n : Nat) (zs : List Int) (e : Ending) (w' : World) : Prop := ∃ a' c', e = .returned (.slice a' n c') ∧ Byts w' w'.heap.size a' n zs ∧ w.grownBy w' none

set_option maxHeartbeats 1000000 in
theorem cloneU8_any (a : Option Addr) (n c : Nat) (zs : List Int) (w : World) {B : Nat} (h : Byts w B a n zs) (hB : B ≤ w.heap.size) (hnil : a = none → n = 0) (hn : n ≤ 4096) :
    Calls Ebpg.prog 9 #[.slice a n c] w fun e w' => BytsClone w n zs e w' := by
  have heq := fun (x : Option Addr) (l c : Nat) => Lib.run_eql_slice_nil (P := Ebpg.prog) w 22 5 x l c 0 0 Ebpg.underlying22
  obtain ⟨h1, h2, h3, _⟩ := id h
  cases a with
  | none =>
    have hn0 := hnil rfl
    go_enter Ebpg.func9, Ebpg.ntmps9
    go_wp2
    go_ret
    subst hn0
    exact ⟨none, 0, rfl, ⟨h1, h2, h3, .inl rfl⟩, World.grownBy.refl _ _⟩
  | some x =>
    obtain ⟨i0, hi, hz0, hz1, hz2⟩ := info_parts Ebpg.info5
    go_enter Ebpg.func9, Ebpg.ntmps9
    go_wp2_with (first
      | (at_make; refine wpList_make_full _ rfl _ _ 22 rfl w.heap.size 5 i0 (.int .u8 0) 1 Ebpg.underlying22 hi hz0 hz1 _ _ _ _ n rfl rfl rfl rfl (by rw [hz2]; omega) h2 (Nat.le_refl _) ?_; intro w1 hown hgrow)
      | go_in)
    have hlen : ((madeCells (Value.int .u8 0).cells (n * 1)).toList).length = n := by have := hown.1; simpa using this
    generalize (madeCells (Value.int .u8 0).cells (n * 1)).toList = xs0 at hown hlen
    clear heq
    have C0 : Copied (fun i => Value.int .u8 (opInt zs i)) 0 xs0 := Copied.zero _ _
    go_loopw [4] (fun i wr => ∃ k : Nat, ∃ xs, k ≤ n ∧ i = .int .i64 k ∧ xs.length = n ∧ wr.ownsRow w.heap.size 5 1 (.slice (some ⟨w.heap.size, 0, none⟩) n n) n xs ∧ Copied (fun i => Value.int .u8 (opInt zs i)) k xs ∧ w.grownBy wr none) (fun i _ => n - (intOf i).toNat)
    case atStart => exact ⟨0, xs0, Nat.zero_le _, rfl, hlen, hown, C0, hgrow⟩
    case round =>
      obtain ⟨k, xs, hk, rfl, hxl, hwn, hcp, hgr⟩ := hrel
      clear hown hgrow hlen C0
      by_cases hlt : k < n
      · obtain ⟨b, off, hx, hbB, hc⟩ := h.place hlt
        have hck := hgr.cell (hc k hlt) (by simp)
        cases hx
        have hold := hwn.cellAt k (by omega)
        rw [List.getElem?_eq_getElem (by omega)] at hold
        have hfr := hwn.frozenAt k
        obtain ⟨hst, hgs⟩ := hwn.stored k (Value.int .u8 (opInt zs k))
        have hcp' := hcp.step (by omega)
        have hgr' := grownBy_own hgr hgs (Nat.le_refl _)
        clear hc hwn hcp hgr hgs
        go_wp2
        go_roundw
        case rel => exact ⟨k + 1, _, by omega, by go_num, by simpa using hxl, hst, hcp', hgr'⟩
        case measure => simp [intOf]; omega
      · obtain rfl : k = n := by omega
        go_wp2
        go_ret
        have hlt' : w.heap.size < wr.heap.size := (hwn.lt w.heap.size rfl).2
        exact ⟨_, _, rfl, ⟨h1, h2, h3, .inr ⟨w.heap.size, 0, rfl, hlt', fun i hi => by rw [Nat.zero_add, hwn.cellAt i (by omega)]; exact hcp i hi⟩⟩, hgr⟩

/-- A copy in memory of its own (a nil slice: nil); nothing old has turned. -/
def StrsClone (w : World) (n : Nat) (zs : List ByteArray) (e : Ending) (w' : World) : Prop := ∃ a' c', e = .returned (.slice a' n c') ∧ Strs w' w'.heap.size a' n zs ∧ w.grownBy w' none

set_option maxHeartbeats 1000000 in
theorem cloneStr_any (a : Option Addr) (n c : Nat) (zs : List ByteArray) (w : World) {B : Nat} (h : Strs w B a n zs) (hB : B ≤ w.heap.size) (hnil : a = none → n = 0) (hn : n ≤ 4096) :
    Calls Ebpg.prog 10 #[.slice a n c] w fun e w' => StrsClone w n zs e w' := by
  have heq := fun (x : Option Addr) (l c : Nat) => Lib.run_eql_slice_nil (P := Ebpg.prog) w 23 9 x l c 0 0 Ebpg.underlying23
  obtain ⟨h1, h2, h3, _⟩ := id h
  cases a with
  | none =>
    have hn0 := hnil rfl
    go_enter Ebpg.func10, Ebpg.ntmps10
    go_wp2
    go_ret
    subst hn0
    exact ⟨none, 0, rfl, ⟨h1, h2, h3, .inl rfl⟩, World.grownBy.refl _ _⟩
  | some x =>
    obtain ⟨i0, hi, hz0, hz1, hz2⟩ := info_parts Ebpg.info9
    go_enter Ebpg.func10, Ebpg.ntmps10
    go_wp2_with (first
      | (at_make; refine wpList_make_full _ rfl _ _ 23 rfl w.heap.size 9 i0 (.string ByteArray.empty) 1 Ebpg.underlying23 hi hz0 hz1 _ _ _ _ n rfl rfl rfl rfl (by rw [hz2]; omega) h2 (Nat.le_refl _) ?_; intro w1 hown hgrow)
      | go_in)
    have hlen : ((madeCells (Value.string ByteArray.empty).cells (n * 1)).toList).length = n := by have := hown.1; simpa using this
    generalize (madeCells (Value.string ByteArray.empty).cells (n * 1)).toList = xs0 at hown hlen
    clear heq
    have C0 : Copied (fun i => Value.string (opStr zs i)) 0 xs0 := Copied.zero _ _
    go_loopw [4] (fun i wr => ∃ k : Nat, ∃ xs, k ≤ n ∧ i = .int .i64 k ∧ xs.length = n ∧ wr.ownsRow w.heap.size 9 1 (.slice (some ⟨w.heap.size, 0, none⟩) n n) n xs ∧ Copied (fun i => Value.string (opStr zs i)) k xs ∧ w.grownBy wr none) (fun i _ => n - (intOf i).toNat)
    case atStart => exact ⟨0, xs0, Nat.zero_le _, rfl, hlen, hown, C0, hgrow⟩
    case round =>
      obtain ⟨k, xs, hk, rfl, hxl, hwn, hcp, hgr⟩ := hrel
      clear hown hgrow hlen C0
      by_cases hlt : k < n
      · obtain ⟨b, off, hx, hbB, hc⟩ := h.place hlt
        have hck := hgr.cell (hc k hlt) (by simp)
        cases hx
        have hold := hwn.cellAt k (by omega)
        rw [List.getElem?_eq_getElem (by omega)] at hold
        have hfr := hwn.frozenAt k
        obtain ⟨hst, hgs⟩ := hwn.stored k (Value.string (opStr zs k))
        have hcp' := hcp.step (by omega)
        have hgr' := grownBy_own hgr hgs (Nat.le_refl _)
        clear hc hwn hcp hgr hgs
        go_wp2
        go_roundw
        case rel => exact ⟨k + 1, _, by omega, by go_num, by simpa using hxl, hst, hcp', hgr'⟩
        case measure => simp [intOf]; omega
      · obtain rfl : k = n := by omega
        go_wp2
        go_ret
        have hlt' : w.heap.size < wr.heap.size := (hwn.lt w.heap.size rfl).2
        exact ⟨_, _, rfl, ⟨h1, h2, h3, .inr ⟨w.heap.size, 0, rfl, hlt', fun i hi => by rw [Nat.zero_add, hwn.cellAt i (by omega)]; exact hcp i hi⟩⟩, hgr⟩

end Go.Proofs.Yoebpw

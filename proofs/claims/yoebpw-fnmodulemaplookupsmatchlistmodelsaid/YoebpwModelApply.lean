/-
  Seat oebp. zzB2ModelApply: the list after the script is what the plain model says.
-/
import Derived.Test.YoebpwModel
namespace Go.Proofs.Yoebpw
open Go.RowKit Go.Maps
set_option linter.unusedVariables false

theorem Ebpg.info56 : (Ebpg.prog.info? 56).map (fun i => (i.zero, i.size, i.bytes)) = some (some (.agg #[.string ByteArray.empty, .int .u8 0, .string ByteArray.empty]), 3, 40) := by kernel_rfl

/-- The cells of n entries. -/
def Rows3 (xs : List Value) (n : Nat) (f : Nat → Ent) : Prop :=
  ∀ i, i < n → xs[i * 3]? = some (.string (f i).1) ∧ xs[i * 3 + 1]? = some (.int .u8 (f i).2.1) ∧ xs[i * 3 + 2]? = some (.string (f i).2.2)

/-- The list lies in memory of the call's own, from block B on; of what lay below nothing has turned. -/
def ListAt (w0 wr : World) (ao : Option Addr) (n cap : Nat) (f : Nat → Ent) : Prop :=
  ∃ xs, wr.ownsRow w0.heap.size 56 3 (.slice ao n cap) n xs ∧ Rows3 xs n f ∧ w0.grownBy wr none

def listOf (n : Nat) (f : Nat → Ent) : List Ent := (List.range n).map f

theorem listOf_getD {n i : Nat} (f : Nat → Ent) (h : i < n) : (listOf n f).getD i noEnt = f i := by
  unfold listOf
  rw [List.getD_eq_getElem?_getD, List.getElem?_map, List.getElem?_range h]
  rfl
theorem listOf_name {n i : Nat} (f : Nat → Ent) (h : i < n) : entName (listOf n f) i = (f i).1 := by unfold entName; rw [listOf_getD f h]
theorem listOf_kind {n i : Nat} (f : Nat → Ent) (h : i < n) : entKind (listOf n f) i = (f i).2.1 := by unfold entKind; rw [listOf_getD f h]
theorem listOf_pay {n i : Nat} (f : Nat → Ent) (h : i < n) : entPay (listOf n f) i = (f i).2.2 := by unfold entPay; rw [listOf_getD f h]

/-- Where there is an entry, the list has a block. -/
theorem ListAt.place {w0 wr : World} {ao : Option Addr} {n cap : Nat} {f : Nat → Ent} (h : ListAt w0 wr ao n cap f) (hn : 0 < n) :
    ∃ g, ao = some ⟨g, 0, none⟩ ∧ w0.heap.size ≤ g ∧ g < wr.heap.size ∧ n ≤ cap ∧ (∀ j, wr.frozen? ⟨g, j, none⟩ = false) ∧
      ∀ i, i < n → wr.cell? ⟨g, i * 3, none⟩ = some (.string (f i).1) ∧ wr.cell? ⟨g, i * 3 + 1, none⟩ = some (.int .u8 (f i).2.1) ∧ wr.cell? ⟨g, i * 3 + 2, none⟩ = some (.string (f i).2.2) := by
  obtain ⟨xs, ho, hr, hg⟩ := h
  rcases ho.2 with ⟨h', h0⟩ | ⟨g, c', cur, h', hb, _, hnc, _⟩
  · omega
  · simp only [Value.slice.injEq, true_and] at h'
    obtain ⟨rfl, rfl⟩ := h'
    refine ⟨g, rfl, hb, (ho.lt g rfl).2, hnc, fun j => ho.frozenAt j, fun i hi => ?_⟩
    obtain ⟨r1, r2, r3⟩ := hr i hi
    exact ⟨(ho.cellAt (i * 3) (by omega)).trans r1, (ho.cellAt (i * 3 + 1) (by omega)).trans r2, (ho.cellAt (i * 3 + 2) (by omega)).trans r3⟩

theorem ListAt.ents {w0 wr : World} {ao : Option Addr} {n cap : Nat} {f : Nat → Ent} (h : ListAt w0 wr ao n cap f) : Ents wr ao n (listOf n f) := by
  refine ⟨by simp [listOf], ?_⟩
  by_cases hn : n = 0
  · exact .inl hn
  · obtain ⟨g, ha, _, _, _, _, hc⟩ := h.place (by omega)
    exact .inr ⟨g, ha, fun i hi => by rw [listOf_name f hi, listOf_kind f hi, listOf_pay f hi]; exact hc i hi⟩

theorem ListAt.alloc {w0 wr : World} {ao : Option Addr} {n cap : Nat} {f : Nat → Ent} (h : ListAt w0 wr ao n cap f) (o : Obj) : ListAt w0 (wr.alloc o) ao n cap f := by
  obtain ⟨xs, ho, hr, hg⟩ := h
  exact ⟨xs, ho.alloc o, hr, hg.trans (World.grownBy_alloc _ _ _)⟩

/-- One entry written over. -/
theorem ListAt.set {w0 wr : World} {g n cap : Nat} {f : Nat → Ent} (h : ListAt w0 wr (some ⟨g, 0, none⟩) n cap f) (hB : w0.heap.size ≤ g) {i : Nat} (hi : i < n) (x : Ent) :
    ListAt w0 (((wr.setCell ⟨g, i * 3, none⟩ (.string x.1)).setCell ⟨g, i * 3 + 1, none⟩ (.int .u8 x.2.1)).setCell ⟨g, i * 3 + 2, none⟩ (.string x.2.2)) (some ⟨g, 0, none⟩) n cap (fun j => if j = i then x else f j) := by
  obtain ⟨xs, ho, hr, hg⟩ := h
  obtain ⟨o1, g1⟩ := ho.stored (i * 3) (.string x.1)
  obtain ⟨o2, g2⟩ := o1.stored (i * 3 + 1) (.int .u8 x.2.1)
  obtain ⟨o3, g3⟩ := o2.stored (i * 3 + 2) (.string x.2.2)
  have hl : xs.length = n * 3 := ho.1
  refine ⟨_, o3, fun j hj => ?_, grownBy_own (grownBy_own (grownBy_own hg g1 hB) g2 hB) g3 hB⟩
  by_cases e : j = i
  · subst e
    simp only [if_true]
    refine ⟨?_, ?_, ?_⟩
    · rw [List.getElem?_set_ne (by omega), List.getElem?_set_ne (by omega), List.getElem?_set_self (by omega)]
    · rw [List.getElem?_set_ne (by omega), List.getElem?_set_self (by simp; omega)]
    · rw [List.getElem?_set_self (by simp; omega)]
  · simp only [if_neg e]
    obtain ⟨r1, r2, r3⟩ := hr j hj
    refine ⟨?_, ?_, ?_⟩
    · rw [List.getElem?_set_ne (by omega), List.getElem?_set_ne (by omega), List.getElem?_set_ne (by omega)]; exact r1
    · rw [List.getElem?_set_ne (by omega), List.getElem?_set_ne (by omega), List.getElem?_set_ne (by omega)]; exact r2
    · rw [List.getElem?_set_ne (by omega), List.getElem?_set_ne (by omega), List.getElem?_set_ne (by omega)]; exact r3

/-- The last entry cut off. -/
theorem ListAt.pop {w0 wr : World} {g n cap : Nat} {f : Nat → Ent} (h : ListAt w0 wr (some ⟨g, 0, none⟩) n cap f) (hn : 0 < n) : ListAt w0 wr (some ⟨g, 0, none⟩) (n - 1) cap f := by
  obtain ⟨xs, ho, hr, hg⟩ := h
  obtain ⟨m, rfl⟩ : ∃ m, n = m + 1 := ⟨n - 1, by omega⟩
  have hl : xs.length = (m + 1) * 3 := ho.1
  have e : xs = xs.take (m * 3) ++ xs.drop (m * 3) := (List.take_append_drop _ _).symm
  rw [e] at ho
  have ho' := ownsRow_pop (by rw [List.length_take]; omega) ho
  refine ⟨_, ho', fun i hi => ?_, hg⟩
  have hi' : i < m := hi
  obtain ⟨r1, r2, r3⟩ := hr i (by omega)
  refine ⟨?_, ?_, ?_⟩
  · rw [List.getElem?_take, if_pos (by omega)]; exact r1
  · rw [List.getElem?_take, if_pos (by omega)]; exact r2
  · rw [List.getElem?_take, if_pos (by omega)]; exact r3

/-- Behind an append of one entry. -/
theorem ListAt.pushed {w0 wr w1 w2 : World} {ao : Option Addr} {n cap : Nat} {f : Nat → Ent} {xs : List Value} {v' : Value} (x : Ent) (ho : wr.ownsRow w0.heap.size 56 3 (.slice ao n cap) n xs) (hr : Rows3 xs n f) (hg : w0.grownBy wr none)
    (ho' : w2.ownsRow w0.heap.size 56 3 v' (n + 1) (xs ++ [.string x.1, .int .u8 x.2.1, .string x.2.2])) (ha : wr.grownBy w1 none) (hg' : w1.grownBy w2 (Value.slice ao n cap).ownBlock) :
    ∃ ao' cap', v' = .slice ao' (n + 1) cap' ∧ ListAt w0 w2 ao' (n + 1) cap' (fun j => if j = n then x else f j) := by
  have hl : xs.length = n * 3 := ho.1
  obtain ⟨ao', cap', hv⟩ : ∃ ao' cap', v' = .slice ao' (n + 1) cap' := by
    rcases ho'.2 with ⟨_, h0⟩ | ⟨g, c', cur, h', _⟩
    · omega
    · exact ⟨_, _, h'⟩
  subst hv
  refine ⟨ao', cap', rfl, _, ho', fun j hj => ?_, ?_⟩
  · by_cases e : j = n
    · subst e
      simp only [if_true]
      refine ⟨?_, ?_, ?_⟩
      · rw [List.getElem?_append_right (by omega)]; simp [hl]
      · rw [List.getElem?_append_right (by omega)]; simp [hl]
      · rw [List.getElem?_append_right (by omega)]; simp [hl]
    · simp only [if_neg e]
      obtain ⟨r1, r2, r3⟩ := hr j (by omega)
      refine ⟨?_, ?_, ?_⟩
      · rw [List.getElem?_append_left (by omega)]; exact r1
      · rw [List.getElem?_append_left (by omega)]; exact r2
      · rw [List.getElem?_append_left (by omega)]; exact r3
  · refine (hg.trans ha).andThen hg' (fun j hj => .inl ?_)
    exact (ho.lt j hj).1

theorem cell_three_new (w : World) (a b c : Value) (t : TypeId) : ∀ j u, [a, b, c][j]? = some u → (w.alloc (.cells #[a, b, c] t)).cell? ((⟨w.heap.size, 0, none⟩ : Addr).add j) = some u := by
  intro j u hj
  match j, hj with
  | 0, hj => simp at hj; subst hj; simp [Addr.add]
  | 1, hj => simp at hj; subst hj; simp [Addr.add]
  | 2, hj => simp at hj; subst hj; simp [Addr.add]

/-! ### what one operation makes of the plain model -/
theorem model_skip {zs : List Int} {ss1 ss2 : List ByteArray} {k n : Nat} {f : Nat → Ent} (h3 : opInt zs k % 3 = 2) (hI : LInv (modelTo zs ss1 ss2 k) (countTo zs ss1 ss2 k) n f) (hmis : ∀ i, i < n → (f i).1 ≠ opStr ss1 k) :
    LInv (modelTo zs ss1 ss2 (k + 1)) (countTo zs ss1 ss2 (k + 1)) n f := by
  have hM := hI.absent hmis
  simp only [modelTo, countTo, if_pos h3, hM, Option.isSome_none, Bool.false_eq_true, if_false]
  exact hI.stay hmis

theorem model_drop {zs : List Int} {ss1 ss2 : List ByteArray} {k n i : Nat} {f : Nat → Ent} (h3 : opInt zs k % 3 = 2) (hI : LInv (modelTo zs ss1 ss2 k) (countTo zs ss1 ss2 k) n f) (hi : i < n) (hn : (f i).1 = opStr ss1 k) :
    LInv (modelTo zs ss1 ss2 (k + 1)) (countTo zs ss1 ss2 (k + 1)) (n - 1) (fun j => if j = i then f (n - 1) else f j) := by
  have hM := hI.there ⟨i, hi, hn⟩
  simp only [modelTo, countTo, if_pos h3, hM, if_true]
  rw [← hn]
  exact hI.drop hi

theorem model_push {zs : List Int} {ss1 ss2 : List ByteArray} {k n : Nat} {f : Nat → Ent} (h3 : ¬ opInt zs k % 3 = 2) (hI : LInv (modelTo zs ss1 ss2 k) (countTo zs ss1 ss2 k) n f) (hmis : ∀ i, i < n → (f i).1 ≠ opStr ss1 k) :
    LInv (modelTo zs ss1 ss2 (k + 1)) (countTo zs ss1 ss2 (k + 1)) (n + 1) (fun j => if j = n then (opStr ss1 k, opInt zs k % 3, opStr ss2 k) else f j) := by
  have hM := hI.absent hmis
  simp only [modelTo, countTo, if_neg h3, hM, Option.isSome_none, Bool.false_eq_true, if_false]
  exact hI.push (opStr ss1 k, opInt zs k % 3, opStr ss2 k) hmis

theorem model_put {zs : List Int} {ss1 ss2 : List ByteArray} {k n i : Nat} {f : Nat → Ent} (h3 : ¬ opInt zs k % 3 = 2) (hI : LInv (modelTo zs ss1 ss2 k) (countTo zs ss1 ss2 k) n f) (hi : i < n) (hn : (f i).1 = opStr ss1 k) :
    LInv (modelTo zs ss1 ss2 (k + 1)) (countTo zs ss1 ss2 (k + 1)) n (fun j => if j = i then (opStr ss1 k, opInt zs k % 3, opStr ss2 k) else f j) := by
  have hM := hI.there ⟨i, hi, hn⟩
  simp only [modelTo, countTo, if_neg h3, hM, if_true]
  exact hI.put (opStr ss1 k, opInt zs k % 3, opStr ss2 k) hi hn

set_option maxHeartbeats 4000000 in
theorem modelApply_any (a0 a1 a2 : Option Addr) (n0 c0 n1 c1 n2 c2 : Nat) (zs : List Int) (ss1 ss2 : List ByteArray) (w : World) {B : Nat} (hz : Byts w B a0 n0 zs) (h1 : Strs w B a1 n1 ss1) (h2 : Strs w B a2 n2 ss2) (hB : B ≤ w.heap.size) (hn : n0 ≤ 4096) :
    Calls Ebpg.prog 13 #[.slice a0 n0 c0, .slice a1 n1 c1, .slice a2 n2 c2] w fun e w' => ∃ ao n cap f, e = .returned (.slice ao n cap) ∧ n ≤ n0 ∧ ListAt w w' ao n cap f ∧ LInv (modelTo zs ss1 ss2 n0) (countTo zs ss1 ss2 n0) n f := by
  obtain ⟨i56, j0, j1, j2, j3⟩ := info_parts Ebpg.info56
  go_enter Ebpg.func13, Ebpg.ntmps13
  go_wp2
  go_loopw [7, 8] (fun v i wr => ∃ k n cap : Nat, ∃ ao f, k ≤ n0 ∧ i = .int .i64 k ∧ v = .slice ao n cap ∧ n ≤ k ∧ ListAt w wr ao n cap f ∧ LInv (modelTo zs ss1 ss2 k) (countTo zs ss1 ss2 k) n f) (fun _ i _ => n0 - (intOf i).toNat)
  case atStart => exact ⟨0, 0, 0, none, fun _ => noEnt, Nat.zero_le _, rfl, rfl, Nat.le_refl _, ⟨[], World.ownsRow_nil _ _ _ _, fun i hi => by omega, World.grownBy.refl _ _⟩, LInv.start _ _ _ _⟩
  case round =>
    obtain ⟨k, n, cap, ao, f, hk, rfl, rfl, hnk, hL, hI⟩ := hrel
    by_cases hlt : k < n0
    · obtain ⟨xs0, ho0, hr0, hgr⟩ := id hL
      have hbel := (below_none hgr).mono hB
      have s1' := h1.below hbel
      have s2' := h2.below hbel
      obtain ⟨bz, oz, rfl, _, hcz⟩ := (hz.below hbel).place hlt
      have hczk := hcz k hlt
      have hzk := opInt_le hz.2.2.1 k
      have hE := hL.ents
      have hws := hgr.size
      clear hcz hbel
      go_wp2_with fail
      refine (opName_any a1 n1 c1 ss1 k _ s1' (by unfold maxLen; omega)).mono ?_
      rintro e w1 ⟨rfl, rfl⟩
      go_wp2_with fail
      refine (opPay_any a2 n2 c2 ss2 k _ s2' (by unfold maxLen; omega)).mono ?_
      rintro e w1 ⟨rfl, rfl⟩
      go_wp2_with fail
      refine (find_any ao n cap (listOf n f) (opStr ss1 k) _ hE (by omega)).mono ?_
      rintro e w1 ⟨j, rfl, rfl, hj⟩
      clear s1' s2' hE
      rcases hj with ⟨rfl, hmis⟩ | ⟨i, hi, rfl, hnm⟩
      · have hmf : ∀ i, i < n → (f i).1 ≠ opStr ss1 k := fun i hi => by rw [← listOf_name f hi]; exact hmis i hi
        clear hmis
        by_cases h3 : opInt zs k % 3 = 2
        · have hI' := model_skip h3 hI hmf
          clear hmf hI ho0 hr0
          go_wp2_with fail
          go_roundw
          case rel => exact ⟨k + 1, n, cap, ao, f, by omega, by go_num, rfl, by omega, hL, hI'⟩
          case measure => (simp [intOf]) <;> omega
        · have h3' : (opInt zs k % 3 == 2) = false := by rw [beq_eq_false_iff_ne]; exact h3
          have hI' := model_push h3 hI hmf
          clear hmf hI hL
          go_wp2_with (at_builtin; refine wpList_append_own _ rfl _ _ 30 rfl w.heap.size 56 i56 (.agg #[.string ByteArray.empty, .int .u8 0, .string ByteArray.empty]) 3 40 Ebpg.underlying30 j0 j1 j2 j3 rfl (by decide) _ _ _ rfl (ho0.alloc _) ⟨w1.heap.size, 0, none⟩ 1 1 [.string (opStr ss1 k), .int .u8 (opInt zs k % 3), .string (opStr ss2 k)] rfl rfl (cell_three_new _ _ _ _ _) (by intro u hu; simp at hu; rcases hu with rfl | rfl | rfl <;> rfl) (by unfold maxLen; omega) (by omega) (by simp; omega) ?_; intro v' w2 hown' hgrow' _)
          obtain ⟨ao', cap', hv', hL'⟩ := ListAt.pushed (opStr ss1 k, opInt zs k % 3, opStr ss2 k) ho0 hr0 hgr hown' (World.grownBy_alloc _ _ _) hgrow'
          clear ho0 hr0 hown' hgrow'
          go_roundw
          case rel => exact ⟨k + 1, n + 1, cap', ao', _, by omega, by go_num, hv', by omega, hL', hI'⟩
          case measure => (simp [intOf]) <;> omega
      · obtain ⟨g, rfl, hgB, hgl, hnc, hfr, hcs⟩ := hL.place (by omega)
        have hii : (i : Int) < (n : Int) := by omega
        rw [listOf_name f hi] at hnm
        by_cases h3 : opInt zs k % 3 = 2
        · have hI' := model_drop h3 hI hi hnm
          have hL' := ((hL.set hgB hi (f (n - 1))).pop (by omega)).alloc (.cells #[.string (f (n - 1)).1, .int .u8 (f (n - 1)).2.1, .string (f (n - 1)).2.2] 56)
          obtain ⟨e1, e2, e3⟩ := hcs i hi
          obtain ⟨t1, t2, t3⟩ := hcs (n - 1) (by omega)
          have f1 := hfr (i * 3)
          have f2 := hfr (i * 3 + 1)
          have f3 := hfr (i * 3 + 2)
          clear hcs hfr hI hL ho0 hr0 hnm
          go_wp2_with fail
          go_roundw
          case rel => exact ⟨k + 1, n - 1, cap, _, _, by omega, by go_num, rfl, by omega, hL', hI'⟩
          case measure => (simp [intOf]) <;> omega
        · have h3' : (opInt zs k % 3 == 2) = false := by rw [beq_eq_false_iff_ne]; exact h3
          have hI' := model_put h3 hI hi hnm
          have hL' := hL.set hgB hi (opStr ss1 k, opInt zs k % 3, opStr ss2 k)
          obtain ⟨e1, e2, e3⟩ := hcs i hi
          have f1 := hfr (i * 3)
          have f2 := hfr (i * 3 + 1)
          have f3 := hfr (i * 3 + 2)
          clear hcs hfr hI hL ho0 hr0 hnm
          go_wp2_with fail
          go_roundw
          case rel => exact ⟨k + 1, n, cap, _, _, by omega, by go_num, rfl, by omega, hL', hI'⟩
          case measure => (simp [intOf]) <;> omega
    · obtain rfl : k = n0 := by omega
      go_wp2
      go_ret
      exact ⟨ao, n, cap, f, rfl, hnk, hL, hI⟩

end Go.Proofs.Yoebpw

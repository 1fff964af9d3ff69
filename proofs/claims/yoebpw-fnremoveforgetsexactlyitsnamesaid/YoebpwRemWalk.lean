/-
  Seat oebp. FnRemoveForgetsExactlyItsName: the walk.
-/
import Derived.Test.YoebpwOthers
import Derived.Test.YoebpwBytes16
namespace Go.Proofs.Yoebpw
open Go.RowKit Go.Maps
set_option linter.unusedVariables false

theorem Ebpg.info36 : (Ebpg.prog.info? 36).map (fun i => (i.zero, i.size, i.bytes)) = some (some (.pointer none), 1, 8) := by kernel_rfl
theorem Ebpg.info38 : (Ebpg.prog.info? 38).map (fun i => (i.zero, i.size, i.bytes)) = some (some (.pointer none), 1, 8) := by kernel_rfl

/-- The two lists of pointers, as far as they are filled; and what the round leaves alone. -/
structure Filled (n1 gs gb : Nat) (ss1 : List ByteArray) (D : DataW Value) (k : Nat) (w0 wr : World) : Prop where
  src : ∃ xs, xs.length = n1 ∧ wr.ownsRow 0 36 1 (.slice (some ⟨gs, 0, none⟩) n1 n1) n1 xs ∧ Copied (fun i => Value.pointer (srcOf (look D (opStr ss1 i).data.toList))) k xs
  bin : ∃ ys, ys.length = n1 ∧ wr.ownsRow 0 38 1 (.slice (some ⟨gb, 0, none⟩) n1 n1) n1 ys ∧ Copied (fun i => Value.pointer (binOf (look D (opStr ss1 i).data.toList))) k ys
  old : w0.grownBy wr none

/-- What a round of the filling loop does. -/
theorem Filled.step {n1 gs gb : Nat} {ss1 : List ByteArray} {D : DataW Value} {k : Nat} {w0 wr : World} (h : Filled n1 gs gb ss1 D k w0 wr) (hlt : k < n1) (hne : gs ≠ gb) (h1 : w0.heap.size ≤ gs) (h2 : w0.heap.size ≤ gb) :
    ∃ o1 o2, wr.cell? ⟨gs, k, none⟩ = some o1 ∧ wr.frozen? ⟨gs, k, none⟩ = false ∧
      (wr.setCell ⟨gs, k, none⟩ (.pointer (srcOf (look D (opStr ss1 k).data.toList)))).cell? ⟨gb, k, none⟩ = some o2 ∧
      (wr.setCell ⟨gs, k, none⟩ (.pointer (srcOf (look D (opStr ss1 k).data.toList)))).frozen? ⟨gb, k, none⟩ = false ∧
      w0.grownBy (wr.setCell ⟨gs, k, none⟩ (.pointer (srcOf (look D (opStr ss1 k).data.toList)))) none ∧
      Filled n1 gs gb ss1 D (k + 1) w0 ((wr.setCell ⟨gs, k, none⟩ (.pointer (srcOf (look D (opStr ss1 k).data.toList)))).setCell ⟨gb, k, none⟩ (.pointer (binOf (look D (opStr ss1 k).data.toList)))) := by
  obtain ⟨⟨xs, hxl, hxo, hxc⟩, ⟨ys, hyl, hyo, hyc⟩, hold⟩ := h
  have c1 := hxo.cellAt k (by omega)
  rw [List.getElem?_eq_getElem (by omega)] at c1
  obtain ⟨xo', xg⟩ := hxo.stored k (.pointer (srcOf (look D (opStr ss1 k).data.toList)))
  have yo' : (wr.setCell ⟨gs, k, none⟩ (.pointer (srcOf (look D (opStr ss1 k).data.toList)))).ownsRow 0 38 1 (.slice (some ⟨gb, 0, none⟩) n1 n1) n1 ys :=
    ownsRow_setCell_other hyo (by simp [Value.ownBlock]; omega) _
  have c2 := yo'.cellAt k (by omega)
  rw [List.getElem?_eq_getElem (by omega)] at c2
  obtain ⟨yo2, yg⟩ := yo'.stored k (.pointer (binOf (look D (opStr ss1 k).data.toList)))
  have xo2 : ((wr.setCell ⟨gs, k, none⟩ (.pointer (srcOf (look D (opStr ss1 k).data.toList)))).setCell ⟨gb, k, none⟩ (.pointer (binOf (look D (opStr ss1 k).data.toList)))).ownsRow 0 36 1 (.slice (some ⟨gs, 0, none⟩) n1 n1) n1 (xs.set k (.pointer (srcOf (look D (opStr ss1 k).data.toList)))) :=
    ownsRow_setCell_other xo' (by simp [Value.ownBlock]; omega) _
  have g1 := grownBy_own hold xg h1
  have g2 := grownBy_own g1 yg h2
  exact ⟨_, _, c1, hxo.frozenAt k, c2, yo'.frozenAt k, g1, ⟨_, by simpa using hxl, xo2, hxc.step (by omega)⟩, ⟨_, by simpa using hyl, yo2, hyc.step (by omega)⟩, g2⟩

theorem Filled.cells {n1 gs gb : Nat} {ss1 : List ByteArray} {D : DataW Value} {w0 wr : World} (h : Filled n1 gs gb ss1 D n1 w0 wr) :
    (∀ i, i < n1 → wr.cell? ⟨gs, i, none⟩ = some (.pointer (srcOf (look D (opStr ss1 i).data.toList)))) ∧ ∀ i, i < n1 → wr.cell? ⟨gb, i, none⟩ = some (.pointer (binOf (look D (opStr ss1 i).data.toList))) := by
  obtain ⟨⟨xs, hxl, hxo, hxc⟩, ⟨ys, hyl, hyo, hyc⟩, _⟩ := h
  exact ⟨fun i hi => (hxo.cellAt i (by omega)).trans (hxc i hi), fun i hi => (hyo.cellAt i (by omega)).trans (hyc i hi)⟩

set_option maxHeartbeats 8000000 in
theorem remove_walk (a0 a1 a2 : Option Addr) (n0 c0 n1 c1 n2 c2 : Nat) (zs : List Int) (ss1 ss2 : List ByteArray) (q : ByteArray) (w : World)
    (hz : Byts w w.heap.size a0 n0 zs) (h1 : Strs w w.heap.size a1 n1 ss1) (h2 : Strs w w.heap.size a2 n2 ss2) (hq : q.size ≤ maxLen) (l0 : a0 = none → n0 = 0) (l1 : a1 = none → n1 = 0) (l2 : a2 = none → n2 = 0) :
    Calls Ebpg.prog 4 #[.slice a0 n0 c0, .slice a1 n1 c1, .slice a2 n2 c2, .string q] w fun e w' => e = .returned (.bool true) ∧ Below w.heap.size w w' := by
  go_enter Ebpg.func4, Ebpg.ntmps4
  go_wp2_with fail
  refine (bytes16_any a0 a1 a2 n0 c0 n1 c1 n2 c2 ss1 ss2 q _ hz.2.1 h1 h2 hq).mono ?_
  rintro e w1 ⟨⟨r, rfl⟩, rfl⟩
  cases r with
  | false =>
    go_wp2
    go_ret
    exact ⟨rfl, Below.refl _ _⟩
  | true =>
    go_wp2_with fail
    refine (tooBig1_any a0 a1 a2 n0 c0 n1 c1 n2 c2 ss1 ss2 q _ hz.2.1 h1 h2 hq).mono ?_
    rintro e w1 ⟨r, rfl, rfl, hf⟩
    cases r with
    | true =>
      go_wp2
      go_ret
      exact ⟨rfl, Below.refl _ _⟩
    | false =>
      obtain ⟨g0, g1, g2, _, _⟩ := hf rfl
      clear hf
      go_wp2_with fail
      refine (cloneU8_any a0 n0 c0 zs _ hz (Nat.le_refl _) l0 g0).mono ?_
      rintro e w2 ⟨x0, d0, rfl, hz2, hg2⟩
      have hs2 := hg2.size
      have h1b := (h1.below (below_none hg2)).mono hs2
      have h2b := (h2.below (below_none hg2)).mono hs2
      go_wp2_with fail
      refine (cloneStr_any a1 n1 c1 ss1 _ h1b (Nat.le_refl _) l1 g1).mono ?_
      rintro e w3 ⟨x1, d1, rfl, h13, hg3⟩
      have hs3 := hg3.size
      have h2c := (h2b.below (below_none hg3)).mono hs3
      have hz3 := (hz2.below (below_none hg3)).mono hs3
      go_wp2_with fail
      refine (cloneStr_any a2 n2 c2 ss2 _ h2c (Nat.le_refl _) l2 g2).mono ?_
      rintro e w4 ⟨x2, d2, rfl, h24, hg4⟩
      have hs4 := hg4.size
      have hz4 := (hz3.below (below_none hg4)).mono hs4
      have h14 := (h13.below (below_none hg4)).mono hs4
      go_wp2_with fail
      refine (new_any _).mono ?_
      rintro e w5 ⟨rfl, hm5, hp5, hg5⟩
      have hz5 := hz4.below (below_none hg5)
      have h15 := h14.below (below_none hg5)
      have h25 := h24.below (below_none hg5)
      clear h1b h2b h2c hz2 hz3 h13 hz4 h14 h24
      go_wp2_with fail
      refine (apply_any (w4.heap.size + 1) w4.heap.size 0 (.map []) x0 x1 x2 n0 d0 n1 d1 n2 d2 zs ss1 ss2 _ _ _ (fun _ _ _ => True) hp5 hm5 hz5 h15 h25 (Nat.le_refl _) g0 (by omega) (keeps_true _ _ _ _ _ _ _) trivial).mono ?_
      rintro e w6 ⟨rfl, D, hm6, hg6, _⟩
      have hbel := below_all hg2 hg3 hg4 hg5 hg6 (Nat.le_refl _)
      have h16 := h15.below (below_of_grown hg6 (Nat.le_refl _) hg5.size)
      have hp6 := kept_block hm5 hg6 hp5
      have m1 := h1.2.1
      have hnm := fun i => opStr_le h1.2.2.1 i
      have hbw : w1.heap.size ≤ w4.heap.size := by omega
      generalize w4.heap.size + 1 = p at *
      generalize w4.heap.size = b at *
      clear hz5 h15 h25 hp5 hm5 hg2 hg3 hg4 hg5 hg6 hs2 hs3 hs4 hz h1 h2 l0 l1 l2
      unfold maxLen at m1
      have hb6 := hm6.lt
      obtain ⟨i36, j0, j1, j2, j3⟩ := info_parts Ebpg.info36
      obtain ⟨i38, k0, k1, k2, k3⟩ := info_parts Ebpg.info38
      go_wp2_with (first
        | (at_make; refine wpList_make_full _ rfl _ _ 34 rfl 0 36 i36 (.pointer none) 1 Ebpg.underlying34 j0 j1 j2 _ _ _ _ n1 rfl rfl rfl rfl (by rw [j3]; omega) (by unfold maxLen; omega) (Nat.zero_le _) ?_; intro w7 hown7 hgrow7)
        | (at_make; refine wpList_make_full _ rfl _ _ 35 rfl 0 38 i38 (.pointer none) 1 Ebpg.underlying35 k0 k1 k2 _ _ _ _ n1 rfl rfl rfl rfl (by rw [k3]; omega) (by unfold maxLen; omega) (Nat.zero_le _) ?_; intro w8 hown8 hgrow8))
      have hgs : w6.heap.size < w7.heap.size := (hown7.lt w6.heap.size rfl).2
      have hgb := hgrow7.size
      have hF : Filled n1 w6.heap.size w7.heap.size ss1 D 0 w6 w8 :=
        ⟨⟨_, by have := hown7.1; simpa using this, hown7.kept hgrow8 (.inr (by simp [Value.ownBlock])), Copied.zero _ _⟩, ⟨_, by have := hown8.1; simpa using this, hown8, Copied.zero _ _⟩, hgrow7.trans hgrow8⟩
      have hne : w6.heap.size ≠ w7.heap.size := by omega
      clear hown7 hown8 hgrow7 hgrow8 j0 j1 j2 j3 k0 k1 k2 k3
      go_loopw [13] (fun i wr => ∃ k : Nat, k ≤ n1 ∧ i = .int .i64 k ∧ Filled n1 w6.heap.size w7.heap.size ss1 D k w6 wr) (fun i _ => n1 - (intOf i).toNat)
      case atStart => exact ⟨0, Nat.zero_le _, rfl, hF⟩
      case round =>
        obtain ⟨k, hk, rfl, hFk⟩ := hrel
        clear hF
        have hold := hFk.old
        by_cases hlt : k < n1
        · obtain ⟨b1, o1, rfl, hb1, hc⟩ := h16.place hlt
          obtain ⟨v1, v2, q1, q2, q3, q4, q5, q6⟩ := hFk.step hlt hne (Nat.le_refl _) hgb
          have hck := hold.cell (hc k hlt) (by simp)
          have hcs := q5.cell (hc k hlt) (by simp)
          have cp := hold.cell (cell_of_one hp6) (by simp)
          have cps := q5.cell (cell_of_one hp6) (by simp)
          have hmr : MapAt wr b (0 + n0) D := World.ownsMap.kept hm6 hold (by simp)
          have hms : MapAt (wr.setCell ⟨w6.heap.size, k, none⟩ (.pointer (srcOf (look D (opStr ss1 k).data.toList)))) b (0 + n0) D := World.ownsMap.kept hm6 q5 (by simp)
          have hnk := hnm k
          clear hc hFk hold q5
          go_wp2_with fail
          refine (getSrc_any p b (0 + n0) D (opStr ss1 k) _ cp hmr hnk).mono ?_
          rintro e y1 ⟨rfl, rfl⟩
          go_wp2_with fail
          refine (getBin_any p b (0 + n0) D (opStr ss1 k) _ cps hms hnk).mono ?_
          rintro e y2 ⟨rfl, rfl⟩
          go_wp2_with fail
          go_roundw
          case rel => exact ⟨k + 1, by omega, by go_num, q6⟩
          case measure => (simp [intOf]) <;> omega
        · obtain rfl : k = n1 := by omega
          obtain ⟨hsrc, hbin⟩ := hFk.cells
          have cp := hold.cell (cell_of_one hp6) (by simp)
          have hmr : MapAt wr b (0 + n0) D := World.ownsMap.kept hm6 hold (by simp)
          have h1r := h16.below (below_none hold |>.mono (Nat.le_of_lt hb6))
          have hbr := hbel.trans ((below_none hold).mono (by have := hbel.size; omega))
          have hlq := hmr.lookup hq
          have hty := hmr.tidy
          have hsz := Maps.size_del (k := .string q.data.toList) hty
          have hgone := look_del_same D q.data.toList
          have hdd : (D.del (.string q.data.toList)).del (.string q.data.toList) = D.del (.string q.data.toList) := Maps.del_of_not_has Maps.has_del_same
          have hHD : Hid ((D.del (.string q.data.toList)).del (.string q.data.toList) = D.del (.string q.data.toList)) := hdd
          have hle : Maps.size D ≤ 4096 := by have := World.ownsMap.size_le hmr; omega
          have hsame : ∀ i, i < k → opStr ss1 i ≠ q → look D (opStr ss1 i).data.toList = look (D.del (.string q.data.toList)) (opStr ss1 i).data.toList := fun i _ hi => (look_del_other (fun e => hi (WideShapes.bytes_inj e))).symm
          clear hFk hold hdd h16 hm6 hp6 hbel hnm
          rcases hmr.cases hq with hl | ⟨a, hl⟩ | ⟨a, hl⟩
          · rw [hlq.2.1, hl] at hsz
            have hN : (Maps.size D : Int) = (Maps.size (D.del (.string q.data.toList)) : Int) := by simp at hsz; omega
            have hM : Maps.size (D.del (.string q.data.toList)) ≤ 4096 := by omega
            have HN : Hid _ := hN
            have HL : Hid _ := hl
            have HG : Hid _ := hgone
            clear hN hl hsz hlq hle hgone hty
            go_wp2_with fail
            refine (getSrc_at p b _ D q _ cp hmr hq (none) (by rw [HL.out]; rfl)).mono ?_
            rintro e u1 ⟨rfl, rfl⟩
            go_wp2_with fail
            refine (getBin_at p b _ D q _ cp hmr hq (none) (by rw [HL.out]; rfl)).mono ?_
            rintro e u2 ⟨rfl, rfl⟩
            go_wp2_with fail
            refine (len_at p b _ D _ cp hmr (((Maps.size (D.del (.string q.data.toList)) : Nat) : Int)) HN.out).mono ?_
            rintro e u3 ⟨rfl, rfl⟩
            go_wp2_with fail
            refine (remove_any p b _ D q _ cp hmr hq).mono ?_
            rintro e y1 ⟨rfl, hm1, hr1⟩
            have hlu := hmr.lt
            have cp1 := kept_cell hmr hr1 cp
            have h1y := h1r.below (below_of_grown hr1 (Nat.le_refl b) (Nat.le_of_lt hlu))
            have hsrc1 := fun i hi => kept_cell hmr hr1 (hsrc i hi)
            have hbin1 := fun i hi => kept_cell hmr hr1 (hbin i hi)
            have hb1 := hbr.trans (below_of_grown hr1 hbw (by omega))
            clear hsrc hbin h1r cp hbr
            go_wp2_with fail
            refine (len_at p b _ (D.del (.string q.data.toList)) _ cp1 hm1 _ rfl).mono ?_
            rintro e u4 ⟨rfl, rfl⟩
            go_wp2_with fail
            refine (gone_any p b _ (D.del (.string q.data.toList)) q _ cp1 hm1 hq HG.out).mono ?_
            rintro e u5 ⟨rfl, rfl⟩
            go_wp2_with fail
            refine (others_any p b _ (D.del (.string q.data.toList)) D x1 k d1 ss1 q w6.heap.size w7.heap.size _ cp1 hm1 h1y g1 hq hsrc1 hbin1 hsame).mono ?_
            rintro e y2 ⟨rfl, hd2⟩
            have cp2 := (hd2.cell _).trans cp1
            have hm2 := hd2.map hm1
            have hl1 := hm1.lt
            have hl2 := hm2.lt
            have h2y := h1y.below ((below_none (hd2.grown none)).mono (Nat.le_of_lt hl1))
            have hsrc2 := fun i hi => (hd2.cell _).trans (hsrc1 i hi)
            have hbin2 := fun i hi => (hd2.cell _).trans (hbin1 i hi)
            have hb2 := hb1.trans ((below_none (hd2.grown none)).mono (by omega))
            clear hsrc1 hbin1 h1y cp1 hb1 hd2
            go_wp2_with fail
            refine (remove_any p b _ (D.del (.string q.data.toList)) q _ cp2 hm2 hq).mono ?_
            rintro e y3 ⟨rfl, hm3, hr3⟩
            rw [hHD.out] at hm3
            have cp3 := kept_cell hm2 hr3 cp2
            have h3y := h2y.below (below_of_grown hr3 (Nat.le_refl b) (Nat.le_of_lt hl2))
            have hsrc3 := fun i hi => kept_cell hm2 hr3 (hsrc2 i hi)
            have hbin3 := fun i hi => kept_cell hm2 hr3 (hbin2 i hi)
            have hb3 := hb2.trans (below_of_grown hr3 hbw (by omega))
            have hl3 := hm3.lt
            clear hsrc2 hbin2 h2y cp2 hb2 hm2 hr3
            go_wp2_with fail
            refine (len_at p b _ (D.del (.string q.data.toList)) _ cp3 hm3 _ rfl).mono ?_
            rintro e u4 ⟨rfl, rfl⟩
            go_wp2_with fail
            refine (gone_any p b _ (D.del (.string q.data.toList)) q _ cp3 hm3 hq HG.out).mono ?_
            rintro e u5 ⟨rfl, rfl⟩
            go_wp2_with fail
            refine (others_any p b _ (D.del (.string q.data.toList)) D x1 k d1 ss1 q w6.heap.size w7.heap.size _ cp3 hm3 h3y g1 hq hsrc3 hbin3 hsame).mono ?_
            rintro e y4 ⟨rfl, hd4⟩
            have hb4 := hb3.trans ((below_none (hd4.grown none)).mono (by omega))
            go_wp2_with fail
            go_ret
            exact ⟨rfl, hb4⟩
          · rw [hlq.2.1, hl] at hsz
            have hN : (Maps.size D : Int) = (Maps.size (D.del (.string q.data.toList)) : Int) + 1 := by simp at hsz; omega
            have hM : Maps.size (D.del (.string q.data.toList)) ≤ 4096 := by omega
            have HN : Hid _ := hN
            have HL : Hid _ := hl
            have HG : Hid _ := hgone
            clear hN hl hsz hlq hle hgone hty
            go_wp2_with fail
            refine (getSrc_at p b _ D q _ cp hmr hq (some a) (by rw [HL.out]; rfl)).mono ?_
            rintro e u1 ⟨rfl, rfl⟩
            go_wp2_with fail
            refine (len_at p b _ D _ cp hmr (((Maps.size (D.del (.string q.data.toList)) : Nat) : Int) + 1) HN.out).mono ?_
            rintro e u3 ⟨rfl, rfl⟩
            go_wp2_with fail
            refine (remove_any p b _ D q _ cp hmr hq).mono ?_
            rintro e y1 ⟨rfl, hm1, hr1⟩
            have hlu := hmr.lt
            have cp1 := kept_cell hmr hr1 cp
            have h1y := h1r.below (below_of_grown hr1 (Nat.le_refl b) (Nat.le_of_lt hlu))
            have hsrc1 := fun i hi => kept_cell hmr hr1 (hsrc i hi)
            have hbin1 := fun i hi => kept_cell hmr hr1 (hbin i hi)
            have hb1 := hbr.trans (below_of_grown hr1 hbw (by omega))
            clear hsrc hbin h1r cp hbr
            go_wp2_with fail
            refine (len_at p b _ (D.del (.string q.data.toList)) _ cp1 hm1 _ rfl).mono ?_
            rintro e u4 ⟨rfl, rfl⟩
            go_wp2_with fail
            refine (gone_any p b _ (D.del (.string q.data.toList)) q _ cp1 hm1 hq HG.out).mono ?_
            rintro e u5 ⟨rfl, rfl⟩
            go_wp2_with fail
            refine (others_any p b _ (D.del (.string q.data.toList)) D x1 k d1 ss1 q w6.heap.size w7.heap.size _ cp1 hm1 h1y g1 hq hsrc1 hbin1 hsame).mono ?_
            rintro e y2 ⟨rfl, hd2⟩
            have cp2 := (hd2.cell _).trans cp1
            have hm2 := hd2.map hm1
            have hl1 := hm1.lt
            have hl2 := hm2.lt
            have h2y := h1y.below ((below_none (hd2.grown none)).mono (Nat.le_of_lt hl1))
            have hsrc2 := fun i hi => (hd2.cell _).trans (hsrc1 i hi)
            have hbin2 := fun i hi => (hd2.cell _).trans (hbin1 i hi)
            have hb2 := hb1.trans ((below_none (hd2.grown none)).mono (by omega))
            clear hsrc1 hbin1 h1y cp1 hb1 hd2
            go_wp2_with fail
            refine (remove_any p b _ (D.del (.string q.data.toList)) q _ cp2 hm2 hq).mono ?_
            rintro e y3 ⟨rfl, hm3, hr3⟩
            rw [hHD.out] at hm3
            have cp3 := kept_cell hm2 hr3 cp2
            have h3y := h2y.below (below_of_grown hr3 (Nat.le_refl b) (Nat.le_of_lt hl2))
            have hsrc3 := fun i hi => kept_cell hm2 hr3 (hsrc2 i hi)
            have hbin3 := fun i hi => kept_cell hm2 hr3 (hbin2 i hi)
            have hb3 := hb2.trans (below_of_grown hr3 hbw (by omega))
            have hl3 := hm3.lt
            clear hsrc2 hbin2 h2y cp2 hb2 hm2 hr3
            go_wp2_with fail
            refine (len_at p b _ (D.del (.string q.data.toList)) _ cp3 hm3 _ rfl).mono ?_
            rintro e u4 ⟨rfl, rfl⟩
            go_wp2_with fail
            refine (gone_any p b _ (D.del (.string q.data.toList)) q _ cp3 hm3 hq HG.out).mono ?_
            rintro e u5 ⟨rfl, rfl⟩
            go_wp2_with fail
            refine (others_any p b _ (D.del (.string q.data.toList)) D x1 k d1 ss1 q w6.heap.size w7.heap.size _ cp3 hm3 h3y g1 hq hsrc3 hbin3 hsame).mono ?_
            rintro e y4 ⟨rfl, hd4⟩
            have hb4 := hb3.trans ((below_none (hd4.grown none)).mono (by omega))
            go_wp2_with fail
            go_ret
            exact ⟨rfl, hb4⟩
          · rw [hlq.2.1, hl] at hsz
            have hN : (Maps.size D : Int) = (Maps.size (D.del (.string q.data.toList)) : Int) + 1 := by simp at hsz; omega
            have hM : Maps.size (D.del (.string q.data.toList)) ≤ 4096 := by omega
            have HN : Hid _ := hN
            have HL : Hid _ := hl
            have HG : Hid _ := hgone
            clear hN hl hsz hlq hle hgone hty
            go_wp2_with fail
            refine (getSrc_at p b _ D q _ cp hmr hq (none) (by rw [HL.out]; rfl)).mono ?_
            rintro e u1 ⟨rfl, rfl⟩
            go_wp2_with fail
            refine (getBin_at p b _ D q _ cp hmr hq (some a) (by rw [HL.out]; rfl)).mono ?_
            rintro e u2 ⟨rfl, rfl⟩
            go_wp2_with fail
            refine (len_at p b _ D _ cp hmr (((Maps.size (D.del (.string q.data.toList)) : Nat) : Int) + 1) HN.out).mono ?_
            rintro e u3 ⟨rfl, rfl⟩
            go_wp2_with fail
            refine (remove_any p b _ D q _ cp hmr hq).mono ?_
            rintro e y1 ⟨rfl, hm1, hr1⟩
            have hlu := hmr.lt
            have cp1 := kept_cell hmr hr1 cp
            have h1y := h1r.below (below_of_grown hr1 (Nat.le_refl b) (Nat.le_of_lt hlu))
            have hsrc1 := fun i hi => kept_cell hmr hr1 (hsrc i hi)
            have hbin1 := fun i hi => kept_cell hmr hr1 (hbin i hi)
            have hb1 := hbr.trans (below_of_grown hr1 hbw (by omega))
            clear hsrc hbin h1r cp hbr
            go_wp2_with fail
            refine (len_at p b _ (D.del (.string q.data.toList)) _ cp1 hm1 _ rfl).mono ?_
            rintro e u4 ⟨rfl, rfl⟩
            go_wp2_with fail
            refine (gone_any p b _ (D.del (.string q.data.toList)) q _ cp1 hm1 hq HG.out).mono ?_
            rintro e u5 ⟨rfl, rfl⟩
            go_wp2_with fail
            refine (others_any p b _ (D.del (.string q.data.toList)) D x1 k d1 ss1 q w6.heap.size w7.heap.size _ cp1 hm1 h1y g1 hq hsrc1 hbin1 hsame).mono ?_
            rintro e y2 ⟨rfl, hd2⟩
            have cp2 := (hd2.cell _).trans cp1
            have hm2 := hd2.map hm1
            have hl1 := hm1.lt
            have hl2 := hm2.lt
            have h2y := h1y.below ((below_none (hd2.grown none)).mono (Nat.le_of_lt hl1))
            have hsrc2 := fun i hi => (hd2.cell _).trans (hsrc1 i hi)
            have hbin2 := fun i hi => (hd2.cell _).trans (hbin1 i hi)
            have hb2 := hb1.trans ((below_none (hd2.grown none)).mono (by omega))
            clear hsrc1 hbin1 h1y cp1 hb1 hd2
            go_wp2_with fail
            refine (remove_any p b _ (D.del (.string q.data.toList)) q _ cp2 hm2 hq).mono ?_
            rintro e y3 ⟨rfl, hm3, hr3⟩
            rw [hHD.out] at hm3
            have cp3 := kept_cell hm2 hr3 cp2
            have h3y := h2y.below (below_of_grown hr3 (Nat.le_refl b) (Nat.le_of_lt hl2))
            have hsrc3 := fun i hi => kept_cell hm2 hr3 (hsrc2 i hi)
            have hbin3 := fun i hi => kept_cell hm2 hr3 (hbin2 i hi)
            have hb3 := hb2.trans (below_of_grown hr3 hbw (by omega))
            have hl3 := hm3.lt
            clear hsrc2 hbin2 h2y cp2 hb2 hm2 hr3
            go_wp2_with fail
            refine (len_at p b _ (D.del (.string q.data.toList)) _ cp3 hm3 _ rfl).mono ?_
            rintro e u4 ⟨rfl, rfl⟩
            go_wp2_with fail
            refine (gone_any p b _ (D.del (.string q.data.toList)) q _ cp3 hm3 hq HG.out).mono ?_
            rintro e u5 ⟨rfl, rfl⟩
            go_wp2_with fail
            refine (others_any p b _ (D.del (.string q.data.toList)) D x1 k d1 ss1 q w6.heap.size w7.heap.size _ cp3 hm3 h3y g1 hq hsrc3 hbin3 hsame).mono ?_
            rintro e y4 ⟨rfl, hd4⟩
            have hb4 := hb3.trans ((below_none (hd4.grown none)).mono (by omega))
            go_wp2_with fail
            go_ret
            exact ⟨rfl, hb4⟩

end Go.Proofs.Yoebpw

/-
  Seat oebp. FnModuleMapLookupsMatchListModel: the walk.
-/
import Derived.Test.YoebpwModelApply
import Derived.Test.YoebpwCheckName
import Derived.Test.YoebpwBytes7
namespace Go.Proofs.Yoebpw
open Go.RowKit Go.Maps
set_option linter.unusedVariables false

/-- ALL THAT THE CHECK OF A NAME ASKS. -/
structure Ready (p b m : Nat) (D : DataW Value) (ao : Option Addr) (n : Nat) (es : List Ent) (w : World) : Prop where
  cell : w.cell? ⟨p, 0, none⟩ = some (.map (some b))
  map : MapAt w b m D
  ents : Ents w ao n es
  no : ∀ s, Misses es n s → look D s.data.toList = none
  yes : ∀ s i, i < n → entName es i = s → ∃ v, look D s.data.toList = some v ∧ Holds w v (entKind es i) (entPay es i)
  pay : ∀ i, (entPay es i).size ≤ maxLen

theorem Ready.drawn {p b m : Nat} {D : DataW Value} {ao : Option Addr} {n : Nat} {es : List Ent} {w w' : World} (h : Ready p b m D ao n es w) (hd : Drawn w w') : Ready p b m D ao n es w' := by
  obtain ⟨j, rfl⟩ := hd
  exact ⟨h.cell, h.map, h.ents, h.no, h.yes, h.pay⟩

theorem model_pay {zs : List Int} {ss1 ss2 : List ByteArray} (hp : ∀ i, (opStr ss2 i).size ≤ maxLen) : ∀ (k : Nat) (s : ByteArray) (x : Int × ByteArray), modelTo zs ss1 ss2 k s = some x → x.2.size ≤ maxLen
  | 0, _, _, h => by cases h
  | k + 1, s, x, h => by
    simp only [modelTo] at h
    by_cases e : s = opStr ss1 k
    · subst e
      rw [upd_same] at h
      split at h
      · cases h
      · cases h; exact hp k
    · rw [upd_other e] at h
      exact model_pay hp k s x h

theorem ready_of {p b m : Nat} {D : DataW Value} {ao : Option Addr} {n cap N : Nat} {f : Nat → Ent} {zs : List Int} {ss1 ss2 : List ByteArray} {w0 w : World} (hp : ∀ i, (opStr ss2 i).size ≤ maxLen) (c : w.cell? ⟨p, 0, none⟩ = some (.map (some b))) (hm : MapAt w b m D)
    (hL : ListAt w0 w ao n cap f) (hI : LInv (modelTo zs ss1 ss2 N) (countTo zs ss1 ss2 N) n f) (hA : ∀ s, Agrees w D s (modelTo zs ss1 ss2 N s)) : Ready p b m D ao n (listOf n f) w := by
  refine ⟨c, hm, hL.ents, fun s hs => ?_, fun s i hi e => ?_, fun i => ?_⟩
  · have hM := hI.absent (s := s) (fun i hi => by rw [← listOf_name f hi]; exact hs i hi)
    have := hA s
    rw [hM] at this
    exact this
  · rw [listOf_name f hi] at e
    subst e
    have := hA (f i).1
    rw [hI.hit i hi] at this
    rw [listOf_kind f hi, listOf_pay f hi]
    exact this
  · by_cases hi : i < n
    · rw [listOf_pay f hi]
      exact model_pay hp N (f i).1 (f i).2 (hI.hit i hi)
    · unfold entPay
      rw [List.getD_eq_getElem?_getD, List.getElem?_eq_none (by simp [listOf]; omega)]
      exact Nat.zero_le _

set_option maxHeartbeats 8000000 in
theorem match_walk (a0 a1 a2 : Option Addr) (n0 c0 n1 c1 n2 c2 : Nat) (zs : List Int) (ss1 ss2 : List ByteArray) (q : ByteArray) (w : World)
    (hz : Byts w w.heap.size a0 n0 zs) (h1 : Strs w w.heap.size a1 n1 ss1) (h2 : Strs w w.heap.size a2 n2 ss2) (hq : q.size ≤ maxLen) (l0 : a0 = none → n0 = 0) (l1 : a1 = none → n1 = 0) (l2 : a2 = none → n2 = 0) :
    Calls Ebpg.prog 3 #[.slice a0 n0 c0, .slice a1 n1 c1, .slice a2 n2 c2, .string q] w fun e w' => e = .returned (.bool true) ∧ Below w.heap.size w w' := by
  go_enter Ebpg.func3, Ebpg.ntmps3
  go_wp2_with fail
  refine (bytes7_any a0 a1 a2 n0 c0 n1 c1 n2 c2 ss1 ss2 q _ hz.2.1 h1 h2 hq).mono ?_
  rintro e w1 ⟨⟨r, rfl⟩, rfl⟩
  cases r with
  | false =>
    go_wp2
    go_ret
    exact ⟨rfl, Below.refl _ _⟩
  | true =>
    go_wp2_with fail
    refine (tooBig1_any a0 a1 a2 n0 c0 n1 c1 n2 c2 ss1 ss2 q _ hz.2.1 h1 h2 hq).mono ?_
    rintro e w1 ⟨r, rfl, rfl, hf⟩
    cases r with
    | true =>
      go_wp2
      go_ret
      exact ⟨rfl, Below.refl _ _⟩
    | false =>
      obtain ⟨g0, g1, g2, _, _⟩ := hf rfl
      clear hf
      go_wp2_with fail
      refine (cloneU8_any a0 n0 c0 zs _ hz (Nat.le_refl _) l0 g0).mono ?_
      rintro e w2 ⟨x0, d0, rfl, hz2, hg2⟩
      have hs2 := hg2.size
      have h1b := (h1.below (below_none hg2)).mono hs2
      have h2b := (h2.below (below_none hg2)).mono hs2
      go_wp2_with fail
      refine (cloneStr_any a1 n1 c1 ss1 _ h1b (Nat.le_refl _) l1 g1).mono ?_
      rintro e w3 ⟨x1, d1, rfl, h13, hg3⟩
      have hs3 := hg3.size
      have h2c := (h2b.below (below_none hg3)).mono hs3
      have hz3 := (hz2.below (below_none hg3)).mono hs3
      go_wp2_with fail
      refine (cloneStr_any a2 n2 c2 ss2 _ h2c (Nat.le_refl _) l2 g2).mono ?_
      rintro e w4 ⟨x2, d2, rfl, h24, hg4⟩
      have hs4 := hg4.size
      have hz4 := (hz3.below (below_none hg4)).mono hs4
      have h14 := (h13.below (below_none hg4)).mono hs4
      go_wp2_with fail
      refine (new_any _).mono ?_
      rintro e w5 ⟨rfl, hm5, hp5, hg5⟩
      have hz5 := hz4.below (below_none hg5)
      have h15 := h14.below (below_none hg5)
      have h25 := h24.below (below_none hg5)
      have hnm := fun i => opStr_le h1.2.2.1 i
      have hpy := fun i => opStr_le h2.2.2.1 i
      clear h1b h2b h2c hz2 hz3 h13 hz4 h14 h24
      go_wp2_with fail
      refine (apply_any (w4.heap.size + 1) w4.heap.size 0 (.map []) x0 x1 x2 n0 d0 n1 d1 n2 d2 zs ss1 ss2 _ _ _ (MapInv zs ss1 ss2) hp5 hm5 hz5 h15 h25 (Nat.le_refl _) g0 (by omega) (keeps_model _ _ _ _ _ _ hnm) (mapInv_start _ _ _ _)).mono ?_
      rintro e w6 ⟨rfl, D, hm6, hg6, hI6⟩
      have hbel := below_all hg2 hg3 hg4 hg5 hg6 (Nat.le_refl _)
      have hb56 := below_of_grown (B := w4.heap.size) hg6 (Nat.le_refl _) hg5.size
      have hz6 := hz5.below hb56
      have h16 := h15.below hb56
      have h26 := h25.below hb56
      have hp6 := kept_block hm5 hg6 hp5
      have m1 := h1.2.1
      have hbw : w1.heap.size ≤ w4.heap.size := by omega
      generalize w4.heap.size + 1 = p at *
      generalize w4.heap.size = b at *
      clear hz5 h15 h25 hp5 hm5 hg2 hg3 hg4 hg5 hg6 hs2 hs3 hs4 hz h1 h2 l0 l1 l2 hb56
      unfold maxLen at m1
      have hb6 := hm6.lt
      go_wp2_with fail
      refine (modelApply_any x0 x1 x2 n0 d0 n1 d1 n2 d2 zs ss1 ss2 _ hz6 h16 h26 (Nat.le_of_lt hb6) g0).mono ?_
      rintro e w7 ⟨ao, n, cap, f, rfl, hnn, hL, hI⟩
      obtain ⟨_, _, _, hg7⟩ := id hL
      have hm7 : MapAt w7 b (0 + n0) D := World.ownsMap.kept hm6 hg7 (by simp)
      have cp7 := hg7.cell (cell_of_one hp6) (by simp)
      have hA7 : ∀ s, Agrees w7 D s (modelTo zs ss1 ss2 n0 s) := fun s => (hI6.2 s).kept hm6 (hg7.but (some b)) rfl
      have hR := ready_of hpy cp7 hm7 hL hI hA7
      have hsz : (Maps.size D : Int) = (n : Int) := by rw [hI6.1, ← hI.len]
      have h17 := h16.below ((below_none hg7).mono (Nat.le_of_lt hb6))
      have hb7 := hbel.trans ((below_none hg7).mono (by omega))
      have HS : Hid _ := hsz
      clear hsz hA7 hI hL hI6 hz6 h16 h26 hpy hp6 hg7 hm6 hbel
      go_wp2_with fail
      refine (len_at p b _ D _ cp7 hm7 (n : Int) HS.out).mono ?_
      rintro e w8 ⟨rfl, rfl⟩
      clear cp7 hm7
      go_wp2_with fail
      go_loopw [11] (fun i wr => ∃ k : Nat, k ≤ n1 ∧ i = .int .i64 k ∧ Drawn w8 wr) (fun i _ => n1 - (intOf i).toNat)
      case atStart => exact ⟨0, Nat.zero_le _, rfl, Drawn.refl _⟩
      case round =>
        obtain ⟨k, hk, rfl, hdr⟩ := hrel
        have hRr := hR.drawn hdr
        by_cases hlt : k < n1
        · obtain ⟨b1, o1, rfl, _, hc⟩ := h17.place hlt
          have hck := (hdr.cell _).trans (hc k hlt)
          have hnk := hnm k
          clear hc
          go_wp2_with fail
          refine (check_any p b _ D ao n cap (listOf n f) (opStr ss1 k) _ hRr.cell hRr.map hnk hRr.ents (by omega) (hRr.no _) (hRr.yes _) hRr.pay).mono ?_
          rintro e w9 ⟨rfl, hd9⟩
          go_wp2_with fail
          go_roundw
          case rel => exact ⟨k + 1, by omega, by go_num, hdr.trans hd9⟩
          case measure => (simp [intOf]) <;> omega
        · obtain rfl : k = n1 := by omega
          go_wp2_with fail
          refine (check_any p b _ D ao n cap (listOf n f) q _ hRr.cell hRr.map hq hRr.ents (by omega) (hRr.no _) (hRr.yes _) hRr.pay).mono ?_
          rintro e w9 ⟨rfl, hd9⟩
          have hd := hdr.trans hd9
          have hb9 := hb7.trans ((below_none (hd.grown none)).mono (by have := hb7.size; omega))
          go_wp2_with fail
          go_ret
          exact ⟨rfl, hb9⟩

end Go.Proofs.Yoebpw

/-
  Seat oebp. zzB2QGone, zzB2OthersSame.
-/
import Derived.Test.YoebpwDrawn
namespace Go.Proofs.Yoebpw
open Go.RowKit Go.Maps
set_option linter.unusedVariables false

theorem gone_any (p b n : Nat) (D : DataW Value) (q : ByteArray) (w : World) (c0 : w.cell? ⟨p, 0, none⟩ = some (.map (some b))) (hm : MapAt w b n D) (hq : q.size ≤ maxLen) (hl : look D q.data.toList = none) :
    Calls Ebpg.prog 20 #[.pointer (some ⟨p, 0, none⟩), .string q] w fun e w' => e = .returned (.bool true) ∧ w' = w := by
  go_enter Ebpg.func20, Ebpg.ntmps20
  go_wp2_with fail
  refine (get_at p b n D q _ c0 hm hq .nilIface (by rw [hl]; rfl)).mono ?_
  rintro e w1 ⟨rfl, rfl⟩
  go_wp2_with fail
  refine (getSrc_at p b n D q _ c0 hm hq none (by rw [hl]; rfl)).mono ?_
  rintro e w1 ⟨rfl, rfl⟩
  go_wp2_with fail
  refine (getBin_at p b n D q _ c0 hm hq none (by rw [hl]; rfl)).mono ?_
  rintro e w1 ⟨rfl, rfl⟩
  go_wp2_with fail
  go_ret
  exact ⟨rfl, rfl⟩

set_option maxHeartbeats 4000000 in
theorem others_any (p b m : Nat) (D D0 : DataW Value) (x1 : Option Addr) (n1 d1 : Nat) (ss1 : List ByteArray) (q : ByteArray) (gs gb : Nat) (w : World) {B : Nat} (c0 : w.cell? ⟨p, 0, none⟩ = some (.map (some b))) (hm : MapAt w b m D) (h1 : Strs w B x1 n1 ss1)
    (hn : n1 ≤ 4096) (hq : q.size ≤ maxLen) (hsrc : ∀ i, i < n1 → w.cell? ⟨gs, i, none⟩ = some (.pointer (srcOf (look D0 (opStr ss1 i).data.toList))))
    (hbin : ∀ i, i < n1 → w.cell? ⟨gb, i, none⟩ = some (.pointer (binOf (look D0 (opStr ss1 i).data.toList)))) (hsame : ∀ i, i < n1 → opStr ss1 i ≠ q → look D0 (opStr ss1 i).data.toList = look D (opStr ss1 i).data.toList) :
    Calls Ebpg.prog 21 #[.pointer (some ⟨p, 0, none⟩), .slice x1 n1 d1, .string q, .slice (some ⟨gs, 0, none⟩) n1 n1, .slice (some ⟨gb, 0, none⟩) n1 n1] w fun e w' => e = .returned (.bool true) ∧ Drawn w w' := by
  have hnm := fun i => opStr_le h1.2.2.1 i
  have t36 := fun (a : Addr) (w : World) => neq36 a w
  have t38 := fun (a : Addr) (w : World) => neq38 a w
  go_enter Ebpg.func21, Ebpg.ntmps21
  go_wp2
  go_loopw [11] (fun i wr => ∃ k : Nat, k ≤ n1 ∧ i = .int .i64 k ∧ Drawn w wr) (fun i _ => n1 - (intOf i).toNat)
  case atStart => exact ⟨0, Nat.zero_le _, rfl, Drawn.refl _⟩
  case round =>
    obtain ⟨k, hk, rfl, hdr⟩ := hrel
    by_cases hlt : k < n1
    · obtain ⟨b1, o1, rfl, _, hc⟩ := h1.place hlt
      have hck := (hdr.cell _).trans (hc k hlt)
      have hsk := (hdr.cell _).trans (hsrc k hlt)
      have hbk := (hdr.cell _).trans (hbin k hlt)
      have c0r := (hdr.cell _).trans c0
      have hmr := hdr.map hm
      have hnk := hnm k
      have hsm := hsame k hlt
      have hki : (k : Int) < (n1 : Int) := by omega
      clear hc h1 hnm hsrc hbin hsame hm c0
      by_cases hkq : opStr ss1 k = q
      · go_wp2_with fail
        go_roundw
        case rel => exact ⟨k + 1, by omega, by go_num, hdr⟩
        case measure => (simp [intOf]) <;> omega
      · have hne := str_ne hkq
        rw [hsm hkq] at hsk hbk
        clear hsm
        rcases hmr.cases hnk with hl | ⟨a, hl⟩ | ⟨a, hl⟩
        · have hsk' : wr.cell? ⟨gs, k, none⟩ = some (.pointer (none)) := by rw [hsk, hl]; rfl
          have hbk' : wr.cell? ⟨gb, k, none⟩ = some (.pointer (none)) := by rw [hbk, hl]; rfl
          clear hsk hbk
          have HL : Hid (look D (opStr ss1 k).data.toList = _) := hl
          clear hl
          go_wp2_with fail
          go_quiet ((go_at_call 17; exact Calls.quiet_of_same (getSrc_at p b m D (opStr ss1 k) _ (by exact c0r) (by exact hmr) hnk (none) (by rw [HL.out]; rfl))))
          have hdr1 := hdr.more nq
          have cq1 : (wr.drewN nq).cell? ⟨p, 0, none⟩ = some (.map (some b)) := c0r
          have mq1 : MapAt (wr.drewN nq) b m D := hmr
          have kq1 : (wr.drewN nq).cell? ⟨b1, o1 + k, none⟩ = some (.string (opStr ss1 k)) := hck
          have sq1 : (wr.drewN nq).cell? ⟨gs, k, none⟩ = some (.pointer (none)) := hsk'
          have bq1 : (wr.drewN nq).cell? ⟨gb, k, none⟩ = some (.pointer (none)) := hbk'
          generalize wr.drewN nq = y1 at *
          clear c0r hmr hck hsk' hbk' hdr
          go_wp2_with fail
          go_quiet ((go_at_call 18; exact Calls.quiet_of_same (getBin_at p b m D (opStr ss1 k) _ (by exact cq1) (by exact mq1) hnk (none) (by rw [HL.out]; rfl))))
          have hdr2 := hdr1.more nq
          have cq2 : (y1.drewN nq).cell? ⟨p, 0, none⟩ = some (.map (some b)) := cq1
          have mq2 : MapAt (y1.drewN nq) b m D := mq1
          have kq2 : (y1.drewN nq).cell? ⟨b1, o1 + k, none⟩ = some (.string (opStr ss1 k)) := kq1
          have sq2 : (y1.drewN nq).cell? ⟨gs, k, none⟩ = some (.pointer (none)) := sq1
          have bq2 : (y1.drewN nq).cell? ⟨gb, k, none⟩ = some (.pointer (none)) := bq1
          generalize y1.drewN nq = y2 at *
          clear cq1 mq1 kq1 sq1 bq1 hdr1
          go_wp2_with fail
          refine (get_at p b m D (opStr ss1 k) _ cq2 mq2 hnk (.nilIface) (by rw [HL.out]; rfl)).mono ?_
          rintro e y3 ⟨rfl, rfl⟩
          go_wp2_with fail
          go_roundw
          case rel => exact ⟨k + 1, by omega, by go_num, hdr2⟩
          case measure => (simp [intOf]) <;> omega
        · have hsk' : wr.cell? ⟨gs, k, none⟩ = some (.pointer (some a)) := by rw [hsk, hl]; rfl
          have hbk' : wr.cell? ⟨gb, k, none⟩ = some (.pointer (none)) := by rw [hbk, hl]; rfl
          clear hsk hbk
          have HL : Hid (look D (opStr ss1 k).data.toList = _) := hl
          clear hl
          go_wp2_with fail
          go_quiet ((go_at_call 17; exact Calls.quiet_of_same (getSrc_at p b m D (opStr ss1 k) _ (by exact c0r) (by exact hmr) hnk (some a) (by rw [HL.out]; rfl))))
          have hdr1 := hdr.more nq
          have cq1 : (wr.drewN nq).cell? ⟨p, 0, none⟩ = some (.map (some b)) := c0r
          have mq1 : MapAt (wr.drewN nq) b m D := hmr
          have kq1 : (wr.drewN nq).cell? ⟨b1, o1 + k, none⟩ = some (.string (opStr ss1 k)) := hck
          have sq1 : (wr.drewN nq).cell? ⟨gs, k, none⟩ = some (.pointer (some a)) := hsk'
          have bq1 : (wr.drewN nq).cell? ⟨gb, k, none⟩ = some (.pointer (none)) := hbk'
          generalize wr.drewN nq = y1 at *
          clear c0r hmr hck hsk' hbk' hdr
          go_wp2_with fail
          go_quiet ((go_at_call 18; exact Calls.quiet_of_same (getBin_at p b m D (opStr ss1 k) _ (by exact cq1) (by exact mq1) hnk (none) (by rw [HL.out]; rfl))))
          have hdr2 := hdr1.more nq
          have cq2 : (y1.drewN nq).cell? ⟨p, 0, none⟩ = some (.map (some b)) := cq1
          have mq2 : MapAt (y1.drewN nq) b m D := mq1
          have kq2 : (y1.drewN nq).cell? ⟨b1, o1 + k, none⟩ = some (.string (opStr ss1 k)) := kq1
          have sq2 : (y1.drewN nq).cell? ⟨gs, k, none⟩ = some (.pointer (some a)) := sq1
          have bq2 : (y1.drewN nq).cell? ⟨gb, k, none⟩ = some (.pointer (none)) := bq1
          generalize y1.drewN nq = y2 at *
          clear cq1 mq1 kq1 sq1 bq1 hdr1
          go_wp2_with fail
          refine (get_at p b m D (opStr ss1 k) _ cq2 mq2 hnk (.iface 36 (.pointer (some a))) (by rw [HL.out]; rfl)).mono ?_
          rintro e y3 ⟨rfl, rfl⟩
          go_wp2_with fail
          go_roundw
          case rel => exact ⟨k + 1, by omega, by go_num, hdr2⟩
          case measure => (simp [intOf]) <;> omega
        · have hsk' : wr.cell? ⟨gs, k, none⟩ = some (.pointer (none)) := by rw [hsk, hl]; rfl
          have hbk' : wr.cell? ⟨gb, k, none⟩ = some (.pointer (some a)) := by rw [hbk, hl]; rfl
          clear hsk hbk
          have HL : Hid (look D (opStr ss1 k).data.toList = _) := hl
          clear hl
          go_wp2_with fail
          go_quiet ((go_at_call 17; exact Calls.quiet_of_same (getSrc_at p b m D (opStr ss1 k) _ (by exact c0r) (by exact hmr) hnk (none) (by rw [HL.out]; rfl))))
          have hdr1 := hdr.more nq
          have cq1 : (wr.drewN nq).cell? ⟨p, 0, none⟩ = some (.map (some b)) := c0r
          have mq1 : MapAt (wr.drewN nq) b m D := hmr
          have kq1 : (wr.drewN nq).cell? ⟨b1, o1 + k, none⟩ = some (.string (opStr ss1 k)) := hck
          have sq1 : (wr.drewN nq).cell? ⟨gs, k, none⟩ = some (.pointer (none)) := hsk'
          have bq1 : (wr.drewN nq).cell? ⟨gb, k, none⟩ = some (.pointer (some a)) := hbk'
          generalize wr.drewN nq = y1 at *
          clear c0r hmr hck hsk' hbk' hdr
          go_wp2_with fail
          go_quiet ((go_at_call 18; exact Calls.quiet_of_same (getBin_at p b m D (opStr ss1 k) _ (by exact cq1) (by exact mq1) hnk (some a) (by rw [HL.out]; rfl))))
          have hdr2 := hdr1.more nq
          have cq2 : (y1.drewN nq).cell? ⟨p, 0, none⟩ = some (.map (some b)) := cq1
          have mq2 : MapAt (y1.drewN nq) b m D := mq1
          have kq2 : (y1.drewN nq).cell? ⟨b1, o1 + k, none⟩ = some (.string (opStr ss1 k)) := kq1
          have sq2 : (y1.drewN nq).cell? ⟨gs, k, none⟩ = some (.pointer (none)) := sq1
          have bq2 : (y1.drewN nq).cell? ⟨gb, k, none⟩ = some (.pointer (some a)) := bq1
          generalize y1.drewN nq = y2 at *
          clear cq1 mq1 kq1 sq1 bq1 hdr1
          go_wp2_with fail
          refine (get_at p b m D (opStr ss1 k) _ cq2 mq2 hnk (.iface 38 (.pointer (some a))) (by rw [HL.out]; rfl)).mono ?_
          rintro e y3 ⟨rfl, rfl⟩
          go_wp2_with fail
          go_roundw
          case rel => exact ⟨k + 1, by omega, by go_num, hdr2⟩
          case measure => (simp [intOf]) <;> omega
    · obtain rfl : k = n1 := by omega
      go_wp2
      go_ret
      exact ⟨rfl, hdr⟩

end Go.Proofs.Yoebpw
